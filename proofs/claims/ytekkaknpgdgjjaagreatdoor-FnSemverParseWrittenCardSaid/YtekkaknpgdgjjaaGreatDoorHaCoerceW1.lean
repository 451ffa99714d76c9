/- coerceNewVersion on a text that the loose expression takes, its captured texts good. -/
import Derived.Test.YtekkaknpgdgjjaaGreatDoorFindW1
import Derived.Test.YtekkaknpgdgjjaaGreatDoorHaExpLW1
import Derived.Test.YtekkaknpgdgjjaaGreatDoorHaVerBW1
import Derived.Test.YtekkaknpgdgjjaaGreatDoorValW1
import Derived.Deep.Cut
namespace Go.Proofs.YtekkaknpgdgjjaaGreatDoor.H
open Go.RowKit Go.Proofs.YtekkaknpgdgjjaaGreatDoorW.PrintWords
set_option linter.unusedVariables false
set_option linter.unusedSimpArgs false
set_option maxRecDepth 100000

theorem eq56 (A : Addr) (n c : Nat) (w : World) : (binOp .eql 56 (.slice (some A) n c) (.slice none 0 0)).run Tryz.prog w = .ok (.bool false) w := rfl
/-- The texts that are read, in their row. -/
def TxAt (w : World) (gr : Nat) (x1 x2 x3 : ByteArray) : Prop := w.cell? ⟨gr, 1, none⟩ = some (.string x1) ∧ w.cell? ⟨gr, 2, none⟩ = some (.string x2) ∧ w.cell? ⟨gr, 3, none⟩ = some (.string x3)
/-- The state between the numbers: the version's block, the row of texts. -/
structure Cs (W0 w : World) (g gr : Nat) (a b c : Int) (p m o x1 x2 x3 : ByteArray) : Prop where
  below : Below W0.heap.size W0 w
  ver : Ver w g a b c p m o
  base : W0.heap.size ≤ g
  ne : gr ≠ g
  tx : TxAt w gr x1 x2 x3
theorem TxAt.below {w w' : World} {gr : Nat} {x1 x2 x3 : ByteArray} (h : TxAt w gr x1 x2 x3) (hb : Below w.heap.size w w') : TxAt w' gr x1 x2 x3 := ⟨cell_below h.1 hb, cell_below h.2.1 hb, cell_below h.2.2 hb⟩
section
variable {W0 w w' : World} {g gr : Nat} {a b c : Int} {p m o x1 x2 x3 : ByteArray}
theorem Cs.grown (h : Cs W0 w g gr a b c p m o x1 x2 x3) (hb : Below w.heap.size w w') : Cs W0 w' g gr a b c p m o x1 x2 x3 := ⟨h.below.trans (hb.mono h.below.size), h.ver.below hb, h.base, h.ne, h.tx.below hb⟩
theorem cell_far' {gr g i j : Nat} {v : Value} (hne : gr ≠ g) : (w.setCell ⟨g, i, none⟩ v).cell? ⟨gr, j, none⟩ = w.cell? ⟨gr, j, none⟩ := World.cell?_of_block (Below.heap_setCell w ⟨g, i, none⟩ v gr hne)
theorem TxAt.far {v : Value} {i : Nat} (h : TxAt w gr x1 x2 x3) (hne : gr ≠ g) : TxAt (w.setCell ⟨g, i, none⟩ v) gr x1 x2 x3 := ⟨(cell_far' hne).trans h.1, (cell_far' hne).trans h.2.1, (cell_far' hne).trans h.2.2⟩
theorem Cs.set0 (h : Cs W0 w g gr a b c p m o x1 x2 x3) (v : Int) : Cs W0 (w.setCell ⟨g, 0, none⟩ (.int .u64 v)) g gr v b c p m o x1 x2 x3 := ⟨below_set h.below h.base, blk_set h.ver 0 _, h.base, h.ne, h.tx.far h.ne⟩
theorem Cs.set1 (h : Cs W0 w g gr a b c p m o x1 x2 x3) (v : Int) : Cs W0 (w.setCell ⟨g, 1, none⟩ (.int .u64 v)) g gr a v c p m o x1 x2 x3 := ⟨below_set h.below h.base, blk_set h.ver 1 _, h.base, h.ne, h.tx.far h.ne⟩
theorem Cs.set2 (h : Cs W0 w g gr a b c p m o x1 x2 x3) (v : Int) : Cs W0 (w.setCell ⟨g, 2, none⟩ (.int .u64 v)) g gr a b v p m o x1 x2 x3 := ⟨below_set h.below h.base, blk_set h.ver 2 _, h.base, h.ne, h.tx.far h.ne⟩
theorem Cs.facts (h : Cs W0 w g gr a b c p m o x1 x2 x3) : (w.cell? ⟨g, 0, none⟩ = some (.int .u64 a) ∧ w.cell? ⟨g, 1, none⟩ = some (.int .u64 b) ∧ w.cell? ⟨g, 2, none⟩ = some (.int .u64 c) ∧ w.cell? ⟨g, 3, none⟩ = some (.string p) ∧ w.cell? ⟨g, 4, none⟩ = some (.string m)) ∧ (∀ i, w.frozen? ⟨g, i, none⟩ = false) ∧ TxAt w gr x1 x2 x3 := by
  obtain ⟨z0, z1, z2, z3, z4, _⟩ := h.ver.cells
  exact ⟨⟨z0, z1, z2, z3, z4⟩, fun i => blk_frozen h.ver i, h.tx⟩
end
theorem row_facts {w : World} {base n : Nat} {v : Value} {xs : List ByteArray} (ho : w.ownsRow base 9 1 v n (xs.map Value.string)) (hn : 0 < n) : ∃ gr cr, v = .slice (some ⟨gr, 0, none⟩) n cr ∧ gr < w.heap.size ∧ ∀ (i : Nat) (x : ByteArray), xs[i]? = some x → w.cell? ⟨gr, i, none⟩ = some (.string x) := by
  obtain ⟨gr, cr, cur, rfl, _, hg, _⟩ := own_some ho hn
  refine ⟨gr, cr, rfl, blk_lt hg, fun i x hx => ?_⟩
  have h := ho.cells (g := gr) rfl i (.string x) (by rw [List.getElem?_map, hx]; rfl)
  rwa [add_plain] at h
/-- A number's text: what stands behind its dot. -/
def trimmed (x : ByteArray) : ByteArray := ⟨(Lib.trimPrefix x.data.toList [46]).toArray⟩
/-- What is asked of a captured number: none, and then the number is 0; or a dot and its digits. -/
def numX (x : ByteArray) (n : Nat) : Prop := (x = ⟨#[]⟩ ∧ n = 0) ∨ (x.data.toList ≠ [] ∧ pu (trimmed x) = some n ∧ (trimmed x).size ≤ 2147483647)
def preX (p : ByteArray) : Prop := p = ⟨#[]⟩ ∨ (p.data.toList ≠ [] ∧ p.size ≤ 2147483647 ∧ ∀ x ∈ (parts 46 p.data.toList).map ba, partErr x = 0)
def metaX (p : ByteArray) : Prop := p = ⟨#[]⟩ ∨ (p.data.toList ≠ [] ∧ p.size ≤ 2147483647 ∧ ∀ x ∈ (parts 46 p.data.toList).map ba, metaPart x = true)
theorem ne_isEmpty {x : ByteArray} (h : x.data.toList ≠ []) : x.toList.isEmpty = false ∧ (¬ x.toList = []) ∧ (¬ x.data = #[]) ∧ (¬ x = ⟨#[]⟩) ∧ (¬ x = ByteArray.empty) := by
  refine ⟨?_, by rw [toList_eq]; exact h, fun e => h (by rw [e]), fun e => h (by rw [e]), fun e => h (by rw [e]; rfl)⟩
  rw [toList_eq]
  cases hx : x.data.toList with
  | nil => exact absurd hx h
  | cons a b => rfl
set_option maxHeartbeats 16000000 in
theorem coerce_calls (s x1 x2 x3 p m : ByteArray) (xs : List ByteArray) (a b c : Nat) (w : World)
    (FF : Hid (∀ (W : World) (re : Nat), Rx W re looseL 1 20 9 1 4 → Calls Tryz.prog 44 #[.pointer (some ⟨re, 0, none⟩), .string s] W fun e w' => Below W.heap.size W w' ∧ ∃ v, e = .returned v ∧ w'.ownsRow W.heap.size 9 1 v 10 (xs.map Value.string)))
    (e1 : xs[1]? = some x1) (e2 : xs[2]? = some x2) (e3 : xs[3]? = some x3) (e5 : xs[5]? = some p) (e8 : xs[8]? = some m)
    (h1 : pu x1 = some a ∧ x1.size ≤ 2147483647) (h2 : numX x2 b) (h3 : numX x3 c) (hp : preX p) (hm : metaX m) :
    Calls Tryz.prog 31 #[.string s] w fun e w' => (∃ g, e = .returned (.tuple #[.pointer (some ⟨g, 0, none⟩), .nilIface]) ∧ Ver w' g a b c p m s) ∧ Below w.heap.size w w' := by
  have hu69 := Tryz.underlying69
  have X := Lib.hid (And.intro e1 (And.intro e2 (And.intro e3 (And.intro e5 e8))))
  have H1 := Lib.hid h1
  have HP := Lib.hid hp
  have HM := Lib.hid hm
  have H2 := Lib.hid h2
  have H3 := Lib.hid h3
  clear e1 e2 e3 e5 e8 h1 h2 h3 hp hm
  go_enter Tryz.func31, Tryz.ntmps31
  go_wp2_with (first
    | (go_at_call 43; refine (expLo_calls _).mono ?_; rintro e w1 ⟨⟨re, rfl, hrx⟩, hb1⟩; have HB1 := Lib.hid hb1; have HRX := Lib.hid hrx; clear hb1 hrx)
    | (go_at_call 44; refine (FF.out _ _ HRX.out).mono ?_; rintro e w2 ⟨hb2, v, rfl, ho⟩; obtain ⟨gr, cr, rfl, hgr, k0⟩ := row_facts ho (by decide); have HB2 := Lib.hid (HB1.out.trans (hb2.mono HB1.out.size)); have k1 := k0 1 _ X.out.1; have k2 := k0 2 _ X.out.2.1; have k3 := k0 3 _ X.out.2.2.1; have k5 := k0 5 _ X.out.2.2.2.1; have k8 := k0 8 _ X.out.2.2.2.2; have q1 := eq56 ⟨gr, 0, none⟩ 10 cr; have HGR := Lib.hid hgr; clear hb2 ho k0 hgr))
  go_still_tail 7, (by kernel_rfl)
  change wpList _ _ _ _ _ w2.drew
  have k1 : w2.drew.cell? ⟨gr, 1, none⟩ = some (.string x1) := k1
  have k2 : w2.drew.cell? ⟨gr, 2, none⟩ = some (.string x2) := k2
  have k3 : w2.drew.cell? ⟨gr, 3, none⟩ = some (.string x3) := k3
  have HB3 := Lib.hid (below_drew HB2.out)
  have HL : Hid (gr < w2.drew.heap.size) := HGR
  clear k5 k8 q1 HB1 HB2 HRX HGR FF
  generalize w2.drew = w3 at *
  have HC : Hid (Cs w (w3.alloc (.cells #[.int .u64 0, .int .u64 0, .int .u64 0, .string p, .string m, .string s] 69)) w3.heap.size gr 0 0 0 p m s x1 x2 x3) := Lib.hid ⟨HB3.out.trans ((below_new' w3 _).mono HB3.out.size), Ver.new _ _ _ _ _ _ _, HB3.out.size, (by have := HL.out; omega), TxAt.below ⟨k1, k2, k3⟩ (below_new' w3 _)⟩
  clear k1 k2 k3 HL HB3
  go_upto_region 6 with (fail)
  generalize w3.alloc (.cells #[.int .u64 0, .int .u64 0, .int .u64 0, .string p, .string m, .string s] 69) = w4 at *
  generalize w3.heap.size = g at *
  obtain ⟨⟨_, _, _, _, _⟩, _, ⟨t1, _, _⟩⟩ := HC.out.facts
  go_upto_region 9 with (go_at_call 45; refine (pu_ok x1 H1.out.2 a H1.out.1 _).mono ?_; rintro e w5 ⟨rfl, hb5⟩; have HC5 := Lib.hid (HC.out.grown hb5); obtain ⟨⟨c0, _, _, _, _⟩, fz, _⟩ := HC5.out.facts; have f0 := fz 0; clear hb5 fz)
  have HC6 := Lib.hid (HC5.out.set0 (a : Int))
  clear c0 f0 HC HC5 t1
  generalize w5.setCell ⟨g, 0, none⟩ (.int .u64 (a : Int)) = w6 at *
  obtain ⟨⟨_, c1, _, _, _⟩, fz, ⟨_, t2, _⟩⟩ := HC6.out.facts
  have f1 := fz 1
  clear fz
  rcases H2.out with ⟨rfl, rfl⟩ | ⟨hne, hpu, hsz⟩
  · go_upto_region 14 with (fail)
    have HCn1 := Lib.hid (HC6.out.set1 (((0 : Nat)) : Int))
    clear c1 f1 t2 HC6
    change Hid (Cs w (w6.setCell ⟨g, 1, none⟩ (.int .u64 0)) _ _ _ _ _ _ _ _ _ _ _) at HCn1
    generalize w6.setCell ⟨g, 1, none⟩ (.int .u64 0) = wn1 at *
    obtain ⟨⟨_, _, c1, _, _⟩, fz, ⟨_, _, t3⟩⟩ := HCn1.out.facts
    have f1 := fz 2
    clear fz
    rcases H3.out with ⟨rfl, rfl⟩ | ⟨hne, hpu, hsz⟩
    · go_upto_region 19 with (fail)
      have HCn2 := Lib.hid (HCn1.out.set2 (((0 : Nat)) : Int))
      clear c1 f1 t3 HCn1
      change Hid (Cs w (wn1.setCell ⟨g, 2, none⟩ (.int .u64 0)) _ _ _ _ _ _ _ _ _ _ _) at HCn2
      generalize wn1.setCell ⟨g, 2, none⟩ (.int .u64 0) = wn2 at *
      obtain ⟨⟨_, _, _, c3, c4⟩, _, _⟩ := HCn2.out.facts
      rcases HP.out with rfl | ⟨hne, hsz, hok⟩
      · go_upto_region 23 with (fail)
        rcases HM.out with rfl | ⟨hne2, hsz2, hok2⟩
        · go_wp2
          go_ret2
          exact ⟨⟨_, rfl, HCn2.out.ver⟩, HCn2.out.below⟩
        · obtain ⟨l1, l2, l3, l4, l5⟩ := ne_isEmpty hne2
          have HMK := Lib.hid (metadata_calls m hsz2 hok2)
          clear hne2 hsz2 hok2
          go_wp2_with (go_at_call 49; refine (HMK.out _).mono ?_; rintro e wl ⟨rfl, hbl⟩; have HCL := Lib.hid (HCn2.out.grown hbl); clear hbl)
          go_ret2
          exact ⟨⟨_, rfl, HCL.out.ver⟩, HCL.out.below⟩
      · obtain ⟨n1, n2, n3, n4, n5⟩ := ne_isEmpty hne
        have HPK := Lib.hid (validate_calls p hsz hok)
        clear hne hsz hok
        go_upto_region 23 with (go_at_call 48; refine (HPK.out _).mono ?_; rintro e wk ⟨rfl, hbk⟩; have HCK := Lib.hid (HCn2.out.grown hbk); obtain ⟨⟨_, _, _, _, c4⟩, _, _⟩ := HCK.out.facts; clear hbk)
        clear c3 n1 n2 n3 n4 n5
        rcases HM.out with rfl | ⟨hne2, hsz2, hok2⟩
        · go_wp2
          go_ret2
          exact ⟨⟨_, rfl, HCK.out.ver⟩, HCK.out.below⟩
        · obtain ⟨l1, l2, l3, l4, l5⟩ := ne_isEmpty hne2
          have HMK := Lib.hid (metadata_calls m hsz2 hok2)
          clear hne2 hsz2 hok2
          go_wp2_with (go_at_call 49; refine (HMK.out _).mono ?_; rintro e wl ⟨rfl, hbl⟩; have HCL := Lib.hid (HCK.out.grown hbl); clear hbl)
          go_ret2
          exact ⟨⟨_, rfl, HCL.out.ver⟩, HCL.out.below⟩
    · obtain ⟨n1, n2, n3, n4, n5⟩ := ne_isEmpty hne
      have HPU := Lib.hid (And.intro hpu hsz)
      clear c1 f1 hpu hsz hne
      go_upto_region 19 with (first | (go_at_call 47; refine (Tryz.strings_TrimPrefix x3 ⟨#[46]⟩ _).mono ?_; rintro e w7 ⟨rfl, rfl⟩) | (go_at_call 45; refine (pu_ok (trimmed x3) HPU.out.2 c HPU.out.1 _).mono ?_; rintro e w8 ⟨rfl, hb8⟩; have HC8 := Lib.hid (HCn1.out.grown hb8); obtain ⟨⟨_, _, c1, _, _⟩, fz, _⟩ := HC8.out.facts; have f1 := fz 2; clear hb8 fz))
      have HCn2 := Lib.hid (HC8.out.set2 (c : Int))
      clear c1 f1 t3 HCn1 HC8 n1 n2 n3 n4 n5
      generalize w8.setCell ⟨g, 2, none⟩ (.int .u64 (c : Int)) = wn2 at *
      obtain ⟨⟨_, _, _, c3, c4⟩, _, _⟩ := HCn2.out.facts
      rcases HP.out with rfl | ⟨hne, hsz, hok⟩
      · go_upto_region 23 with (fail)
        rcases HM.out with rfl | ⟨hne2, hsz2, hok2⟩
        · go_wp2
          go_ret2
          exact ⟨⟨_, rfl, HCn2.out.ver⟩, HCn2.out.below⟩
        · obtain ⟨l1, l2, l3, l4, l5⟩ := ne_isEmpty hne2
          have HMK := Lib.hid (metadata_calls m hsz2 hok2)
          clear hne2 hsz2 hok2
          go_wp2_with (go_at_call 49; refine (HMK.out _).mono ?_; rintro e wl ⟨rfl, hbl⟩; have HCL := Lib.hid (HCn2.out.grown hbl); clear hbl)
          go_ret2
          exact ⟨⟨_, rfl, HCL.out.ver⟩, HCL.out.below⟩
      · obtain ⟨n1, n2, n3, n4, n5⟩ := ne_isEmpty hne
        have HPK := Lib.hid (validate_calls p hsz hok)
        clear hne hsz hok
        go_upto_region 23 with (go_at_call 48; refine (HPK.out _).mono ?_; rintro e wk ⟨rfl, hbk⟩; have HCK := Lib.hid (HCn2.out.grown hbk); obtain ⟨⟨_, _, _, _, c4⟩, _, _⟩ := HCK.out.facts; clear hbk)
        clear c3 n1 n2 n3 n4 n5
        rcases HM.out with rfl | ⟨hne2, hsz2, hok2⟩
        · go_wp2
          go_ret2
          exact ⟨⟨_, rfl, HCK.out.ver⟩, HCK.out.below⟩
        · obtain ⟨l1, l2, l3, l4, l5⟩ := ne_isEmpty hne2
          have HMK := Lib.hid (metadata_calls m hsz2 hok2)
          clear hne2 hsz2 hok2
          go_wp2_with (go_at_call 49; refine (HMK.out _).mono ?_; rintro e wl ⟨rfl, hbl⟩; have HCL := Lib.hid (HCK.out.grown hbl); clear hbl)
          go_ret2
          exact ⟨⟨_, rfl, HCL.out.ver⟩, HCL.out.below⟩
  · obtain ⟨n1, n2, n3, n4, n5⟩ := ne_isEmpty hne
    have HPU := Lib.hid (And.intro hpu hsz)
    clear c1 f1 hpu hsz hne
    go_upto_region 14 with (first | (go_at_call 47; refine (Tryz.strings_TrimPrefix x2 ⟨#[46]⟩ _).mono ?_; rintro e w7 ⟨rfl, rfl⟩) | (go_at_call 45; refine (pu_ok (trimmed x2) HPU.out.2 b HPU.out.1 _).mono ?_; rintro e w8 ⟨rfl, hb8⟩; have HC8 := Lib.hid (HC6.out.grown hb8); obtain ⟨⟨_, c1, _, _, _⟩, fz, _⟩ := HC8.out.facts; have f1 := fz 1; clear hb8 fz))
    have HCn1 := Lib.hid (HC8.out.set1 (b : Int))
    clear c1 f1 t2 HC6 HC8 n1 n2 n3 n4 n5
    generalize w8.setCell ⟨g, 1, none⟩ (.int .u64 (b : Int)) = wn1 at *
    obtain ⟨⟨_, _, c1, _, _⟩, fz, ⟨_, _, t3⟩⟩ := HCn1.out.facts
    have f1 := fz 2
    clear fz
    rcases H3.out with ⟨rfl, rfl⟩ | ⟨hne, hpu, hsz⟩
    · go_upto_region 19 with (fail)
      have HCn2 := Lib.hid (HCn1.out.set2 (((0 : Nat)) : Int))
      clear c1 f1 t3 HCn1
      change Hid (Cs w (wn1.setCell ⟨g, 2, none⟩ (.int .u64 0)) _ _ _ _ _ _ _ _ _ _ _) at HCn2
      generalize wn1.setCell ⟨g, 2, none⟩ (.int .u64 0) = wn2 at *
      obtain ⟨⟨_, _, _, c3, c4⟩, _, _⟩ := HCn2.out.facts
      rcases HP.out with rfl | ⟨hne, hsz, hok⟩
      · go_upto_region 23 with (fail)
        rcases HM.out with rfl | ⟨hne2, hsz2, hok2⟩
        · go_wp2
          go_ret2
          exact ⟨⟨_, rfl, HCn2.out.ver⟩, HCn2.out.below⟩
        · obtain ⟨l1, l2, l3, l4, l5⟩ := ne_isEmpty hne2
          have HMK := Lib.hid (metadata_calls m hsz2 hok2)
          clear hne2 hsz2 hok2
          go_wp2_with (go_at_call 49; refine (HMK.out _).mono ?_; rintro e wl ⟨rfl, hbl⟩; have HCL := Lib.hid (HCn2.out.grown hbl); clear hbl)
          go_ret2
          exact ⟨⟨_, rfl, HCL.out.ver⟩, HCL.out.below⟩
      · obtain ⟨n1, n2, n3, n4, n5⟩ := ne_isEmpty hne
        have HPK := Lib.hid (validate_calls p hsz hok)
        clear hne hsz hok
        go_upto_region 23 with (go_at_call 48; refine (HPK.out _).mono ?_; rintro e wk ⟨rfl, hbk⟩; have HCK := Lib.hid (HCn2.out.grown hbk); obtain ⟨⟨_, _, _, _, c4⟩, _, _⟩ := HCK.out.facts; clear hbk)
        clear c3 n1 n2 n3 n4 n5
        rcases HM.out with rfl | ⟨hne2, hsz2, hok2⟩
        · go_wp2
          go_ret2
          exact ⟨⟨_, rfl, HCK.out.ver⟩, HCK.out.below⟩
        · obtain ⟨l1, l2, l3, l4, l5⟩ := ne_isEmpty hne2
          have HMK := Lib.hid (metadata_calls m hsz2 hok2)
          clear hne2 hsz2 hok2
          go_wp2_with (go_at_call 49; refine (HMK.out _).mono ?_; rintro e wl ⟨rfl, hbl⟩; have HCL := Lib.hid (HCK.out.grown hbl); clear hbl)
          go_ret2
          exact ⟨⟨_, rfl, HCL.out.ver⟩, HCL.out.below⟩
    · obtain ⟨n1, n2, n3, n4, n5⟩ := ne_isEmpty hne
      have HPU := Lib.hid (And.intro hpu hsz)
      clear c1 f1 hpu hsz hne
      go_upto_region 19 with (first | (go_at_call 47; refine (Tryz.strings_TrimPrefix x3 ⟨#[46]⟩ _).mono ?_; rintro e w7 ⟨rfl, rfl⟩) | (go_at_call 45; refine (pu_ok (trimmed x3) HPU.out.2 c HPU.out.1 _).mono ?_; rintro e w8 ⟨rfl, hb8⟩; have HC8 := Lib.hid (HCn1.out.grown hb8); obtain ⟨⟨_, _, c1, _, _⟩, fz, _⟩ := HC8.out.facts; have f1 := fz 2; clear hb8 fz))
      have HCn2 := Lib.hid (HC8.out.set2 (c : Int))
      clear c1 f1 t3 HCn1 HC8 n1 n2 n3 n4 n5
      generalize w8.setCell ⟨g, 2, none⟩ (.int .u64 (c : Int)) = wn2 at *
      obtain ⟨⟨_, _, _, c3, c4⟩, _, _⟩ := HCn2.out.facts
      rcases HP.out with rfl | ⟨hne, hsz, hok⟩
      · go_upto_region 23 with (fail)
        rcases HM.out with rfl | ⟨hne2, hsz2, hok2⟩
        · go_wp2
          go_ret2
          exact ⟨⟨_, rfl, HCn2.out.ver⟩, HCn2.out.below⟩
        · obtain ⟨l1, l2, l3, l4, l5⟩ := ne_isEmpty hne2
          have HMK := Lib.hid (metadata_calls m hsz2 hok2)
          clear hne2 hsz2 hok2
          go_wp2_with (go_at_call 49; refine (HMK.out _).mono ?_; rintro e wl ⟨rfl, hbl⟩; have HCL := Lib.hid (HCn2.out.grown hbl); clear hbl)
          go_ret2
          exact ⟨⟨_, rfl, HCL.out.ver⟩, HCL.out.below⟩
      · obtain ⟨n1, n2, n3, n4, n5⟩ := ne_isEmpty hne
        have HPK := Lib.hid (validate_calls p hsz hok)
        clear hne hsz hok
        go_upto_region 23 with (go_at_call 48; refine (HPK.out _).mono ?_; rintro e wk ⟨rfl, hbk⟩; have HCK := Lib.hid (HCn2.out.grown hbk); obtain ⟨⟨_, _, _, _, c4⟩, _, _⟩ := HCK.out.facts; clear hbk)
        clear c3 n1 n2 n3 n4 n5
        rcases HM.out with rfl | ⟨hne2, hsz2, hok2⟩
        · go_wp2
          go_ret2
          exact ⟨⟨_, rfl, HCK.out.ver⟩, HCK.out.below⟩
        · obtain ⟨l1, l2, l3, l4, l5⟩ := ne_isEmpty hne2
          have HMK := Lib.hid (metadata_calls m hsz2 hok2)
          clear hne2 hsz2 hok2
          go_wp2_with (go_at_call 49; refine (HMK.out _).mono ?_; rintro e wl ⟨rfl, hbl⟩; have HCL := Lib.hid (HCK.out.grown hbl); clear hbl)
          go_ret2
          exact ⟨⟨_, rfl, HCL.out.ver⟩, HCL.out.below⟩
end Go.Proofs.YtekkaknpgdgjjaaGreatDoor.H
