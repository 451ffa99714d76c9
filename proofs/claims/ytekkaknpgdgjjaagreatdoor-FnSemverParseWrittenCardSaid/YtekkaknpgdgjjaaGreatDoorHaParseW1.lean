/- parseConstraint on a text that the expression takes, stepped through: one theorem for each of its ways. -/
import Derived.Test.YtekkaknpgdgjjaaGreatDoorHaParse0W1
import Derived.Test.YtekkaknpgdgjjaaGreatDoorHaExpKW1
import Derived.Deep.Cut
namespace Go.Proofs.YtekkaknpgdgjjaaGreatDoor.H
open Go.RowKit Go.Proofs.YtekkaknpgdgjjaaGreatDoorW.PrintWords
set_option linter.unusedVariables false
set_option linter.unusedSimpArgs false
set_option maxRecDepth 100000

/-- The texts of a row. -/
def Rw (w : World) (gr : Nat) (xs : List ByteArray) : Prop := ∀ (i : Nat) (x : ByteArray), xs[i]? = some x → w.cell? ⟨gr, i, none⟩ = some (.string x)
theorem Rw.below {w w' : World} {gr : Nat} {xs : List ByteArray} (h : Rw w gr xs) (hb : Below w.heap.size w w') : Rw w' gr xs := fun i x hx => cell_below (h i x hx) hb
theorem Rw.drew {w : World} {gr : Nat} {xs : List ByteArray} (h : Rw w gr xs) : Rw w.drew gr xs := h
/-- Block gc is a comparison. -/
def CoB (w : World) (gc : Nat) (pv : Value) (x2 x1 : ByteArray) (md d pd : Bool) : Prop := w.heap[gc]? = some (.cells #[pv, .string x2, .string x1, .bool md, .bool d, .bool pd] 78 (0, 0))
theorem CoB.cells {w : World} {gc : Nat} {pv : Value} {x2 x1 : ByteArray} {md d pd : Bool} (h : CoB w gc pv x2 x1 md d pd) :
    w.cell? ⟨gc, 0, none⟩ = some pv ∧ w.cell? ⟨gc, 1, none⟩ = some (.string x2) ∧ w.cell? ⟨gc, 2, none⟩ = some (.string x1) ∧ w.cell? ⟨gc, 3, none⟩ = some (.bool md) ∧ w.cell? ⟨gc, 4, none⟩ = some (.bool d) ∧ w.cell? ⟨gc, 5, none⟩ = some (.bool pd) :=
  ⟨(blk_cell h 0).trans rfl, (blk_cell h 1).trans rfl, (blk_cell h 2).trans rfl, (blk_cell h 3).trans rfl, (blk_cell h 4).trans rfl, (blk_cell h 5).trans rfl⟩
/-- The state behind NewVersion: the comparison's block and the version's. -/
structure Cn (W0 w : World) (gc g : Nat) (pv : Value) (x2 x1 : ByteArray) (md d pd : Bool) (a b c : Int) (p m o : ByteArray) : Prop where
  below : Below W0.heap.size W0 w
  con : CoB w gc pv x2 x1 md d pd
  ver : Ver w g a b c p m o
  base : W0.heap.size ≤ gc
section
variable {W0 w w' : World} {gc g : Nat} {pv : Value} {x2 x1 : ByteArray} {md d pd : Bool} {a b c : Int} {p m o : ByteArray}
theorem Cn.ne (h : Cn W0 w gc g pv x2 x1 md d pd a b c p m o) : g ≠ gc := by
  intro e
  have h1 := h.ver
  have h2 := h.con
  unfold Ver at h1
  unfold CoB at h2
  rw [e, h2] at h1
  injection h1 with h1
  injection h1 with _ h1 _
  exact absurd h1 (by decide)
theorem Ver.far' (h : Ver w g a b c p m o) (hne : g ≠ gc) (i : Nat) (v : Value) : Ver (w.setCell ⟨gc, i, none⟩ v) g a b c p m o := (heap_setCell_other _ _ _ _ hne).trans h
theorem Cn.set0 (h : Cn W0 w gc g pv x2 x1 md d pd a b c p m o) (v : Value) : Cn W0 (w.setCell ⟨gc, 0, none⟩ v) gc g v x2 x1 md d pd a b c p m o := ⟨below_set h.below h.base, blk_set h.con 0 _, h.ver.far' h.ne _ _, h.base⟩
theorem Cn.set3 (h : Cn W0 w gc g pv x2 x1 md d pd a b c p m o) (v : Bool) : Cn W0 (w.setCell ⟨gc, 3, none⟩ (.bool v)) gc g pv x2 x1 v d pd a b c p m o := ⟨below_set h.below h.base, blk_set h.con 3 _, h.ver.far' h.ne _ _, h.base⟩
theorem Cn.set4 (h : Cn W0 w gc g pv x2 x1 md d pd a b c p m o) (v : Bool) : Cn W0 (w.setCell ⟨gc, 4, none⟩ (.bool v)) gc g pv x2 x1 md v pd a b c p m o := ⟨below_set h.below h.base, blk_set h.con 4 _, h.ver.far' h.ne _ _, h.base⟩
theorem Cn.set5 (h : Cn W0 w gc g pv x2 x1 md d pd a b c p m o) (v : Bool) : Cn W0 (w.setCell ⟨gc, 5, none⟩ (.bool v)) gc g pv x2 x1 md d v a b c p m o := ⟨below_set h.below h.base, blk_set h.con 5 _, h.ver.far' h.ne _ _, h.base⟩
end
theorem isx_b (x : ByteArray) (b : Bool) (h : isXv x = b) (w : World) : Calls Tryz.prog 54 #[.string x] w fun e w' => e = .returned (.bool b) ∧ w' = w := by
  have := isx_calls x w
  rwa [h] at this
theorem isx_empty : isXv ⟨(Lib.trimPrefix [] [46]).toArray⟩ = false := by
  unfold isXv
  simp only [toList_eq]
  rfl
/-- What is asked of the captured texts of all ways. -/
structure Cap6 (s : ByteArray) (xs : List ByteArray) (x1 x2 x3 x4 x5 x6 : ByteArray) : Prop where
  e1 : xs[1]? = some x1
  e2 : xs[2]? = some x2
  e3 : xs[3]? = some x3
  e4 : xs[4]? = some x4
  e5 : xs[5]? = some x5
  e6 : xs[6]? = some x6
  pos : 0 < s.size
  s3 : x3.size ≤ 1000
  s4 : x4.size ≤ 1000
  s6 : x6.size ≤ 1000
set_option maxHeartbeats 16000000 in
theorem parseA_calls (s x1 x2 x3 x4 x5 x6 : ByteArray) (xs : List ByteArray) (a b c : Nat) (p m : ByteArray) (w : World)
    (FF : Hid (∀ (W : World) (re : Nat), Rx W re consL 1 24 11 1 4 → Calls Tryz.prog 44 #[.pointer (some ⟨re, 0, none⟩), .string s] W fun e w' => Below W.heap.size W w' ∧ ∃ v, e = .returned v ∧ w'.ownsRow W.heap.size 9 1 v 12 (xs.map Value.string)))
    (hx : Cap6 s xs x1 x2 x3 x4 x5 x6) (h3 : isXv x3 = true) (hn : NV ((⟨#[48, 46, 48, 46, 48]⟩ : ByteArray) ++ x6) a b c p m) :
    Calls Tryz.prog 36 #[.string s] w fun e w' => (∃ gc g, e = .returned (.tuple #[.pointer (some ⟨gc, 0, none⟩), .nilIface]) ∧ CoB w' gc (.pointer (some ⟨g, 0, none⟩)) x2 x1 false true false ∧ Ver w' g a b c p m ((⟨#[48, 46, 48, 46, 48]⟩ : ByteArray) ++ x6)) ∧ Below w.heap.size w w' := by
  have X := Lib.hid hx
  have FN := Lib.hid hn
  have hps := hx.pos
  have b0 : decide ((s.size : Int) > 0) = true := decide_eq_true (by omega)
  have b1 : decide ((0 : Int) < (s.size : Int)) = true := decide_eq_true (by omega)
  have b2 : (0 < s.size) = True := eq_true hps
  have H3 := Lib.hid h3
  clear h3
  have z3 := hx.s3
  have z4 := hx.s4
  have z6 := hx.s6
  clear hx hn hps
  go_enter Tryz.func36, Tryz.ntmps36
  go_wp2_with (first
    | (go_at_call 53; refine (expCo_calls _).mono ?_; rintro e w1 ⟨⟨re, rfl, hrx⟩, hb1⟩; have HB1 := Lib.hid hb1; have HRX := Lib.hid hrx; clear hb1 hrx)
    | (go_at_call 44; refine (FF.out _ _ HRX.out).mono ?_; rintro e w2 ⟨hb2, v, rfl, ho⟩; obtain ⟨gr, cr, rfl, hgr, k0⟩ := row_facts ho (by decide); have HB2 := Lib.hid (HB1.out.trans (hb2.mono HB1.out.size)); have k1 := k0 1 _ X.out.e1; have k2 := k0 2 _ X.out.e2; have HR2 : Hid (Rw w2 gr xs) := Lib.hid k0; have q1 := eq56 ⟨gr, 0, none⟩ 12 cr; clear hb2 ho k0 hgr))
  go_still_tail 7, (by kernel_rfl)
  change wpList _ _ _ _ _ w2.drew
  have HR3 : Hid (Rw w2.drew gr xs) := HR2
  have HB3 := Lib.hid (below_drew HB2.out)
  clear k1 k2 q1 HB1 HB2 HR2 HRX FF b0 b1 b2
  generalize w2.drew = w3 at *
  have HC : Hid (CoB (w3.alloc (.cells #[.pointer none, .string x2, .string x1, .bool false, .bool false, .bool false] 78)) w3.heap.size (.pointer none) x2 x1 false false false) := Lib.hid (heap_alloc_new w3 _)
  have HR4 := Lib.hid (HR3.out.below (below_new' w3 (.cells #[.pointer none, .string x2, .string x1, .bool false, .bool false, .bool false] 78)))
  have HB4 := Lib.hid (HB3.out.trans ((below_new' w3 (.cells #[.pointer none, .string x2, .string x1, .bool false, .bool false, .bool false] 78)).mono HB3.out.size))
  have HG := Lib.hid HB3.out.size
  clear HR3 HB3
  go_upto_region 6 with (fail)
  generalize w3.alloc (.cells #[.pointer none, .string x2, .string x1, .bool false, .bool false, .bool false] 78) = w4 at *
  generalize w3.heap.size = gc at *
  have k2 := HR4.out 2 _ X.out.e2
  have k3 := HR4.out 3 _ X.out.e3
  have k4 := HR4.out 4 _ X.out.e4
  have k5 := HR4.out 5 _ X.out.e5
  have k6 := HR4.out 6 _ X.out.e6
  have y1 : ((⟨#[48, 46, 48, 46, 48]⟩ : ByteArray) ++ x6).size = 5 + x6.size := by rw [ByteArray.size_append]; rfl
  go_upto_region 21 with ((go_at_call 54; refine (isx_b x3 true H3.out _).mono ?_; rintro e wi ⟨rfl, hwi⟩; replace hwi := hwi.symm; subst hwi))
  clear y1
  clear HR4 k2 k3 k4 k5 k6
  go_upto_region 24 with (go_at_call 20; refine (FN.out _).mono ?_; rintro e w5 ⟨⟨g, rfl, hv⟩, hb5⟩; have HN5 : Hid (Cn w w5 gc g (.pointer none) x2 x1 false false false a b c p m _) := Lib.hid ⟨HB4.out.trans (hb5.mono HB4.out.size), (hb5.block _ (blk_lt HC.out)).trans HC.out, hv, HG.out⟩; clear hv hb5)
  clear HC HB4 FN
  obtain ⟨c0, c1, c2, c3, c4, c5⟩ := HN5.out.con.cells
  have f1 := blk_frozen HN5.out.con 0
  go_upto_region 25 with (fail)
  have HN50 := Lib.hid (HN5.out.set0 (.pointer (some ⟨g, 0, none⟩)))
  clear c0 c1 c2 c3 c4 c5 f1 HN5
  generalize w5.setCell ⟨gc, 0, none⟩ (.pointer (some ⟨g, 0, none⟩)) = w50 at *
  obtain ⟨c0, c1, c2, c3, c4, c5⟩ := HN50.out.con.cells
  have f1 := blk_frozen HN50.out.con 3
  go_upto_region 26 with (fail)
  have HN53 := Lib.hid (HN50.out.set3 false)
  clear c0 c1 c2 c3 c4 c5 f1 HN50
  generalize w50.setCell ⟨gc, 3, none⟩ (.bool false) = w53 at *
  obtain ⟨c0, c1, c2, c3, c4, c5⟩ := HN53.out.con.cells
  have f1 := blk_frozen HN53.out.con 5
  go_upto_region 27 with (fail)
  have HN55 := Lib.hid (HN53.out.set5 false)
  clear c0 c1 c2 c3 c4 c5 f1 HN53
  generalize w53.setCell ⟨gc, 5, none⟩ (.bool false) = w55 at *
  obtain ⟨c0, c1, c2, c3, c4, c5⟩ := HN55.out.con.cells
  have f1 := blk_frozen HN55.out.con 4
  go_upto_region 28 with (fail)
  have HN54 := Lib.hid (HN55.out.set4 true)
  clear c0 c1 c2 c3 c4 c5 f1 HN55
  generalize w55.setCell ⟨gc, 4, none⟩ (.bool true) = w54 at *
  go_wp2
  go_ret2
  exact ⟨⟨_, _, rfl, HN54.out.con, HN54.out.ver⟩, HN54.out.below⟩
set_option maxHeartbeats 16000000 in
theorem parseB1_calls (s x1 x2 x3 x4 x5 x6 : ByteArray) (xs : List ByteArray) (a b c : Nat) (p m : ByteArray) (w : World)
    (FF : Hid (∀ (W : World) (re : Nat), Rx W re consL 1 24 11 1 4 → Calls Tryz.prog 44 #[.pointer (some ⟨re, 0, none⟩), .string s] W fun e w' => Below W.heap.size W w' ∧ ∃ v, e = .returned v ∧ w'.ownsRow W.heap.size 9 1 v 12 (xs.map Value.string)))
    (hx : Cap6 s xs x1 x2 x3 x4 x5 x6) (h3 : isXv x3 = false ∧ x3.data.toList ≠ []) (h4 : x4 = ⟨#[]⟩) (hn : NV ((x3 ++ (⟨#[46, 48, 46, 48]⟩ : ByteArray)) ++ x6) a b c p m) :
    Calls Tryz.prog 36 #[.string s] w fun e w' => (∃ gc g, e = .returned (.tuple #[.pointer (some ⟨gc, 0, none⟩), .nilIface]) ∧ CoB w' gc (.pointer (some ⟨g, 0, none⟩)) x2 x1 true true false ∧ Ver w' g a b c p m ((x3 ++ (⟨#[46, 48, 46, 48]⟩ : ByteArray)) ++ x6)) ∧ Below w.heap.size w w' := by
  have X := Lib.hid hx
  have FN := Lib.hid hn
  have hps := hx.pos
  have b0 : decide ((s.size : Int) > 0) = true := decide_eq_true (by omega)
  have b1 : decide ((0 : Int) < (s.size : Int)) = true := decide_eq_true (by omega)
  have b2 : (0 < s.size) = True := eq_true hps
  obtain ⟨n1, n2, n3, n4, n5⟩ := ne_isEmpty h3.2
  have H3 := Lib.hid h3.1
  clear h3
  subst h4
  have z3 := hx.s3
  have z4 := hx.s4
  have z6 := hx.s6
  clear hx hn hps
  go_enter Tryz.func36, Tryz.ntmps36
  go_wp2_with (first
    | (go_at_call 53; refine (expCo_calls _).mono ?_; rintro e w1 ⟨⟨re, rfl, hrx⟩, hb1⟩; have HB1 := Lib.hid hb1; have HRX := Lib.hid hrx; clear hb1 hrx)
    | (go_at_call 44; refine (FF.out _ _ HRX.out).mono ?_; rintro e w2 ⟨hb2, v, rfl, ho⟩; obtain ⟨gr, cr, rfl, hgr, k0⟩ := row_facts ho (by decide); have HB2 := Lib.hid (HB1.out.trans (hb2.mono HB1.out.size)); have k1 := k0 1 _ X.out.e1; have k2 := k0 2 _ X.out.e2; have HR2 : Hid (Rw w2 gr xs) := Lib.hid k0; have q1 := eq56 ⟨gr, 0, none⟩ 12 cr; clear hb2 ho k0 hgr))
  go_still_tail 7, (by kernel_rfl)
  change wpList _ _ _ _ _ w2.drew
  have HR3 : Hid (Rw w2.drew gr xs) := HR2
  have HB3 := Lib.hid (below_drew HB2.out)
  clear k1 k2 q1 HB1 HB2 HR2 HRX FF b0 b1 b2
  generalize w2.drew = w3 at *
  have HC : Hid (CoB (w3.alloc (.cells #[.pointer none, .string x2, .string x1, .bool false, .bool false, .bool false] 78)) w3.heap.size (.pointer none) x2 x1 false false false) := Lib.hid (heap_alloc_new w3 _)
  have HR4 := Lib.hid (HR3.out.below (below_new' w3 (.cells #[.pointer none, .string x2, .string x1, .bool false, .bool false, .bool false] 78)))
  have HB4 := Lib.hid (HB3.out.trans ((below_new' w3 (.cells #[.pointer none, .string x2, .string x1, .bool false, .bool false, .bool false] 78)).mono HB3.out.size))
  have HG := Lib.hid HB3.out.size
  clear HR3 HB3
  go_upto_region 6 with (fail)
  generalize w3.alloc (.cells #[.pointer none, .string x2, .string x1, .bool false, .bool false, .bool false] 78) = w4 at *
  generalize w3.heap.size = gc at *
  have k2 := HR4.out 2 _ X.out.e2
  have k3 := HR4.out 3 _ X.out.e3
  have k4 := HR4.out 4 _ X.out.e4
  have k5 := HR4.out 5 _ X.out.e5
  have k6 := HR4.out 6 _ X.out.e6
  have y1 : (x3 ++ (⟨#[46, 48, 46, 48]⟩ : ByteArray)).size = x3.size + 4 := by rw [ByteArray.size_append]; rfl
  have y2 : ((x3 ++ (⟨#[46, 48, 46, 48]⟩ : ByteArray)) ++ x6).size = x3.size + 4 + x6.size := by rw [ByteArray.size_append, y1]
  go_upto_region 16 with (first | (go_at_call 54; refine (isx_b x3 false H3.out _).mono ?_; rintro e wi ⟨rfl, hwi⟩; replace hwi := hwi.symm; subst hwi) | (go_at_call 47; refine (Tryz.strings_TrimPrefix ⟨#[]⟩ ⟨#[46]⟩ _).mono ?_; rintro e wi ⟨rfl, hwi⟩; replace hwi := hwi.symm; subst hwi) | (go_at_call 54; refine (isx_b ⟨(Lib.trimPrefix [] [46]).toArray⟩ false isx_empty _).mono ?_; rintro e wi ⟨rfl, hwi⟩; replace hwi := hwi.symm; subst hwi))
  go_quiet (fail)
  clear y1 y2
  have HC5 : Hid (CoB (w4.drewN nq) gc (.pointer none) x2 x1 false false false) := HC
  have HB5 := Lib.hid (below_drewM HB4.out nq)
  clear HC HB4 HR4
  clear k2 k3 k4 k5 k6
  generalize w4.drewN nq = w4d at *
  go_upto_region 24 with (go_at_call 20; refine (FN.out _).mono ?_; rintro e w5 ⟨⟨g, rfl, hv⟩, hb5⟩; have HN5 : Hid (Cn w w5 gc g (.pointer none) x2 x1 false false false a b c p m _) := Lib.hid ⟨HB5.out.trans (hb5.mono HB5.out.size), (hb5.block _ (blk_lt HC5.out)).trans HC5.out, hv, HG.out⟩; clear hv hb5)
  clear HC5 HB5 FN
  obtain ⟨c0, c1, c2, c3, c4, c5⟩ := HN5.out.con.cells
  have f1 := blk_frozen HN5.out.con 0
  go_upto_region 25 with (fail)
  have HN50 := Lib.hid (HN5.out.set0 (.pointer (some ⟨g, 0, none⟩)))
  clear c0 c1 c2 c3 c4 c5 f1 HN5
  generalize w5.setCell ⟨gc, 0, none⟩ (.pointer (some ⟨g, 0, none⟩)) = w50 at *
  obtain ⟨c0, c1, c2, c3, c4, c5⟩ := HN50.out.con.cells
  have f1 := blk_frozen HN50.out.con 3
  go_upto_region 26 with (fail)
  have HN53 := Lib.hid (HN50.out.set3 true)
  clear c0 c1 c2 c3 c4 c5 f1 HN50
  generalize w50.setCell ⟨gc, 3, none⟩ (.bool true) = w53 at *
  obtain ⟨c0, c1, c2, c3, c4, c5⟩ := HN53.out.con.cells
  have f1 := blk_frozen HN53.out.con 5
  go_upto_region 27 with (fail)
  have HN55 := Lib.hid (HN53.out.set5 false)
  clear c0 c1 c2 c3 c4 c5 f1 HN53
  generalize w53.setCell ⟨gc, 5, none⟩ (.bool false) = w55 at *
  obtain ⟨c0, c1, c2, c3, c4, c5⟩ := HN55.out.con.cells
  have f1 := blk_frozen HN55.out.con 4
  go_upto_region 28 with (fail)
  have HN54 := Lib.hid (HN55.out.set4 true)
  clear c0 c1 c2 c3 c4 c5 f1 HN55
  generalize w55.setCell ⟨gc, 4, none⟩ (.bool true) = w54 at *
  go_wp2
  go_ret2
  exact ⟨⟨_, _, rfl, HN54.out.con, HN54.out.ver⟩, HN54.out.below⟩
set_option maxHeartbeats 16000000 in
theorem parseB2_calls (s x1 x2 x3 x4 x5 x6 : ByteArray) (xs : List ByteArray) (a b c : Nat) (p m : ByteArray) (w : World)
    (FF : Hid (∀ (W : World) (re : Nat), Rx W re consL 1 24 11 1 4 → Calls Tryz.prog 44 #[.pointer (some ⟨re, 0, none⟩), .string s] W fun e w' => Below W.heap.size W w' ∧ ∃ v, e = .returned v ∧ w'.ownsRow W.heap.size 9 1 v 12 (xs.map Value.string)))
    (hx : Cap6 s xs x1 x2 x3 x4 x5 x6) (h3 : isXv x3 = false ∧ x3.data.toList ≠ []) (h4 : isXv (trimmed x4) = true) (hn : NV ((x3 ++ (⟨#[46, 48, 46, 48]⟩ : ByteArray)) ++ x6) a b c p m) :
    Calls Tryz.prog 36 #[.string s] w fun e w' => (∃ gc g, e = .returned (.tuple #[.pointer (some ⟨gc, 0, none⟩), .nilIface]) ∧ CoB w' gc (.pointer (some ⟨g, 0, none⟩)) x2 x1 true true false ∧ Ver w' g a b c p m ((x3 ++ (⟨#[46, 48, 46, 48]⟩ : ByteArray)) ++ x6)) ∧ Below w.heap.size w w' := by
  have X := Lib.hid hx
  have FN := Lib.hid hn
  have hps := hx.pos
  have b0 : decide ((s.size : Int) > 0) = true := decide_eq_true (by omega)
  have b1 : decide ((0 : Int) < (s.size : Int)) = true := decide_eq_true (by omega)
  have b2 : (0 < s.size) = True := eq_true hps
  obtain ⟨n1, n2, n3, n4, n5⟩ := ne_isEmpty h3.2
  have H3 := Lib.hid h3.1
  clear h3
  have H4 := Lib.hid h4
  clear h4
  have z3 := hx.s3
  have z4 := hx.s4
  have z6 := hx.s6
  clear hx hn hps
  go_enter Tryz.func36, Tryz.ntmps36
  go_wp2_with (first
    | (go_at_call 53; refine (expCo_calls _).mono ?_; rintro e w1 ⟨⟨re, rfl, hrx⟩, hb1⟩; have HB1 := Lib.hid hb1; have HRX := Lib.hid hrx; clear hb1 hrx)
    | (go_at_call 44; refine (FF.out _ _ HRX.out).mono ?_; rintro e w2 ⟨hb2, v, rfl, ho⟩; obtain ⟨gr, cr, rfl, hgr, k0⟩ := row_facts ho (by decide); have HB2 := Lib.hid (HB1.out.trans (hb2.mono HB1.out.size)); have k1 := k0 1 _ X.out.e1; have k2 := k0 2 _ X.out.e2; have HR2 : Hid (Rw w2 gr xs) := Lib.hid k0; have q1 := eq56 ⟨gr, 0, none⟩ 12 cr; clear hb2 ho k0 hgr))
  go_still_tail 7, (by kernel_rfl)
  change wpList _ _ _ _ _ w2.drew
  have HR3 : Hid (Rw w2.drew gr xs) := HR2
  have HB3 := Lib.hid (below_drew HB2.out)
  clear k1 k2 q1 HB1 HB2 HR2 HRX FF b0 b1 b2
  generalize w2.drew = w3 at *
  have HC : Hid (CoB (w3.alloc (.cells #[.pointer none, .string x2, .string x1, .bool false, .bool false, .bool false] 78)) w3.heap.size (.pointer none) x2 x1 false false false) := Lib.hid (heap_alloc_new w3 _)
  have HR4 := Lib.hid (HR3.out.below (below_new' w3 (.cells #[.pointer none, .string x2, .string x1, .bool false, .bool false, .bool false] 78)))
  have HB4 := Lib.hid (HB3.out.trans ((below_new' w3 (.cells #[.pointer none, .string x2, .string x1, .bool false, .bool false, .bool false] 78)).mono HB3.out.size))
  have HG := Lib.hid HB3.out.size
  clear HR3 HB3
  go_upto_region 6 with (fail)
  generalize w3.alloc (.cells #[.pointer none, .string x2, .string x1, .bool false, .bool false, .bool false] 78) = w4 at *
  generalize w3.heap.size = gc at *
  have k2 := HR4.out 2 _ X.out.e2
  have k3 := HR4.out 3 _ X.out.e3
  have k4 := HR4.out 4 _ X.out.e4
  have k5 := HR4.out 5 _ X.out.e5
  have k6 := HR4.out 6 _ X.out.e6
  have y1 : (x3 ++ (⟨#[46, 48, 46, 48]⟩ : ByteArray)).size = x3.size + 4 := by rw [ByteArray.size_append]; rfl
  have y2 : ((x3 ++ (⟨#[46, 48, 46, 48]⟩ : ByteArray)) ++ x6).size = x3.size + 4 + x6.size := by rw [ByteArray.size_append, y1]
  go_upto_region 16 with (first | (go_at_call 54; refine (isx_b x3 false H3.out _).mono ?_; rintro e wi ⟨rfl, hwi⟩; replace hwi := hwi.symm; subst hwi) | (go_at_call 47; refine (Tryz.strings_TrimPrefix x4 ⟨#[46]⟩ _).mono ?_; rintro e wi ⟨rfl, hwi⟩; replace hwi := hwi.symm; subst hwi) | (go_at_call 54; refine (isx_b (trimmed x4) true H4.out _).mono ?_; rintro e wi ⟨rfl, hwi⟩; replace hwi := hwi.symm; subst hwi))
  go_quiet (fail)
  clear y1 y2
  have HC5 : Hid (CoB (w4.drewN nq) gc (.pointer none) x2 x1 false false false) := HC
  have HB5 := Lib.hid (below_drewM HB4.out nq)
  clear HC HB4 HR4
  clear k2 k3 k4 k5 k6
  generalize w4.drewN nq = w4d at *
  go_upto_region 24 with (go_at_call 20; refine (FN.out _).mono ?_; rintro e w5 ⟨⟨g, rfl, hv⟩, hb5⟩; have HN5 : Hid (Cn w w5 gc g (.pointer none) x2 x1 false false false a b c p m _) := Lib.hid ⟨HB5.out.trans (hb5.mono HB5.out.size), (hb5.block _ (blk_lt HC5.out)).trans HC5.out, hv, HG.out⟩; clear hv hb5)
  clear HC5 HB5 FN
  obtain ⟨c0, c1, c2, c3, c4, c5⟩ := HN5.out.con.cells
  have f1 := blk_frozen HN5.out.con 0
  go_upto_region 25 with (fail)
  have HN50 := Lib.hid (HN5.out.set0 (.pointer (some ⟨g, 0, none⟩)))
  clear c0 c1 c2 c3 c4 c5 f1 HN5
  generalize w5.setCell ⟨gc, 0, none⟩ (.pointer (some ⟨g, 0, none⟩)) = w50 at *
  obtain ⟨c0, c1, c2, c3, c4, c5⟩ := HN50.out.con.cells
  have f1 := blk_frozen HN50.out.con 3
  go_upto_region 26 with (fail)
  have HN53 := Lib.hid (HN50.out.set3 true)
  clear c0 c1 c2 c3 c4 c5 f1 HN50
  generalize w50.setCell ⟨gc, 3, none⟩ (.bool true) = w53 at *
  obtain ⟨c0, c1, c2, c3, c4, c5⟩ := HN53.out.con.cells
  have f1 := blk_frozen HN53.out.con 5
  go_upto_region 27 with (fail)
  have HN55 := Lib.hid (HN53.out.set5 false)
  clear c0 c1 c2 c3 c4 c5 f1 HN53
  generalize w53.setCell ⟨gc, 5, none⟩ (.bool false) = w55 at *
  obtain ⟨c0, c1, c2, c3, c4, c5⟩ := HN55.out.con.cells
  have f1 := blk_frozen HN55.out.con 4
  go_upto_region 28 with (fail)
  have HN54 := Lib.hid (HN55.out.set4 true)
  clear c0 c1 c2 c3 c4 c5 f1 HN55
  generalize w55.setCell ⟨gc, 4, none⟩ (.bool true) = w54 at *
  go_wp2
  go_ret2
  exact ⟨⟨_, _, rfl, HN54.out.con, HN54.out.ver⟩, HN54.out.below⟩
set_option maxHeartbeats 16000000 in
theorem parseC1_calls (s x1 x2 x3 x4 x5 x6 : ByteArray) (xs : List ByteArray) (a b c : Nat) (p m : ByteArray) (w : World)
    (FF : Hid (∀ (W : World) (re : Nat), Rx W re consL 1 24 11 1 4 → Calls Tryz.prog 44 #[.pointer (some ⟨re, 0, none⟩), .string s] W fun e w' => Below W.heap.size W w' ∧ ∃ v, e = .returned v ∧ w'.ownsRow W.heap.size 9 1 v 12 (xs.map Value.string)))
    (hx : Cap6 s xs x1 x2 x3 x4 x5 x6) (h3 : isXv x3 = false ∧ x3.data.toList ≠ []) (h4 : isXv (trimmed x4) = false ∧ x4.data.toList ≠ []) (h5 : x5 = ⟨#[]⟩) (hn : NV (((x3 ++ x4) ++ (⟨#[46, 48]⟩ : ByteArray)) ++ x6) a b c p m) :
    Calls Tryz.prog 36 #[.string s] w fun e w' => (∃ gc g, e = .returned (.tuple #[.pointer (some ⟨gc, 0, none⟩), .nilIface]) ∧ CoB w' gc (.pointer (some ⟨g, 0, none⟩)) x2 x1 false true true ∧ Ver w' g a b c p m (((x3 ++ x4) ++ (⟨#[46, 48]⟩ : ByteArray)) ++ x6)) ∧ Below w.heap.size w w' := by
  have X := Lib.hid hx
  have FN := Lib.hid hn
  have hps := hx.pos
  have b0 : decide ((s.size : Int) > 0) = true := decide_eq_true (by omega)
  have b1 : decide ((0 : Int) < (s.size : Int)) = true := decide_eq_true (by omega)
  have b2 : (0 < s.size) = True := eq_true hps
  obtain ⟨n1, n2, n3, n4, n5⟩ := ne_isEmpty h3.2
  have H3 := Lib.hid h3.1
  clear h3
  obtain ⟨l1, l2, l3, l4, l5⟩ := ne_isEmpty h4.2
  have H4 := Lib.hid h4.1
  clear h4
  subst h5
  have z3 := hx.s3
  have z4 := hx.s4
  have z6 := hx.s6
  clear hx hn hps
  go_enter Tryz.func36, Tryz.ntmps36
  go_wp2_with (first
    | (go_at_call 53; refine (expCo_calls _).mono ?_; rintro e w1 ⟨⟨re, rfl, hrx⟩, hb1⟩; have HB1 := Lib.hid hb1; have HRX := Lib.hid hrx; clear hb1 hrx)
    | (go_at_call 44; refine (FF.out _ _ HRX.out).mono ?_; rintro e w2 ⟨hb2, v, rfl, ho⟩; obtain ⟨gr, cr, rfl, hgr, k0⟩ := row_facts ho (by decide); have HB2 := Lib.hid (HB1.out.trans (hb2.mono HB1.out.size)); have k1 := k0 1 _ X.out.e1; have k2 := k0 2 _ X.out.e2; have HR2 : Hid (Rw w2 gr xs) := Lib.hid k0; have q1 := eq56 ⟨gr, 0, none⟩ 12 cr; clear hb2 ho k0 hgr))
  go_still_tail 7, (by kernel_rfl)
  change wpList _ _ _ _ _ w2.drew
  have HR3 : Hid (Rw w2.drew gr xs) := HR2
  have HB3 := Lib.hid (below_drew HB2.out)
  clear k1 k2 q1 HB1 HB2 HR2 HRX FF b0 b1 b2
  generalize w2.drew = w3 at *
  have HC : Hid (CoB (w3.alloc (.cells #[.pointer none, .string x2, .string x1, .bool false, .bool false, .bool false] 78)) w3.heap.size (.pointer none) x2 x1 false false false) := Lib.hid (heap_alloc_new w3 _)
  have HR4 := Lib.hid (HR3.out.below (below_new' w3 (.cells #[.pointer none, .string x2, .string x1, .bool false, .bool false, .bool false] 78)))
  have HB4 := Lib.hid (HB3.out.trans ((below_new' w3 (.cells #[.pointer none, .string x2, .string x1, .bool false, .bool false, .bool false] 78)).mono HB3.out.size))
  have HG := Lib.hid HB3.out.size
  clear HR3 HB3
  go_upto_region 6 with (fail)
  generalize w3.alloc (.cells #[.pointer none, .string x2, .string x1, .bool false, .bool false, .bool false] 78) = w4 at *
  generalize w3.heap.size = gc at *
  have k2 := HR4.out 2 _ X.out.e2
  have k3 := HR4.out 3 _ X.out.e3
  have k4 := HR4.out 4 _ X.out.e4
  have k5 := HR4.out 5 _ X.out.e5
  have k6 := HR4.out 6 _ X.out.e6
  have y0 : (x3 ++ x4).size = x3.size + x4.size := by rw [ByteArray.size_append]
  have y1 : ((x3 ++ x4) ++ (⟨#[46, 48]⟩ : ByteArray)).size = x3.size + x4.size + 2 := by rw [ByteArray.size_append, y0]; rfl
  have y2 : (((x3 ++ x4) ++ (⟨#[46, 48]⟩ : ByteArray)) ++ x6).size = x3.size + x4.size + 2 + x6.size := by rw [ByteArray.size_append, y1]
  go_upto_region 20 with (first | (go_at_call 54; refine (isx_b x3 false H3.out _).mono ?_; rintro e wi ⟨rfl, hwi⟩; replace hwi := hwi.symm; subst hwi) | (go_at_call 47; refine (Tryz.strings_TrimPrefix x4 ⟨#[46]⟩ _).mono ?_; rintro e wi ⟨rfl, hwi⟩; replace hwi := hwi.symm; subst hwi) | (go_at_call 54; refine (isx_b (trimmed x4) false H4.out _).mono ?_; rintro e wi ⟨rfl, hwi⟩; replace hwi := hwi.symm; subst hwi) | (go_at_call 47; refine (Tryz.strings_TrimPrefix ⟨#[]⟩ ⟨#[46]⟩ _).mono ?_; rintro e wi ⟨rfl, hwi⟩; replace hwi := hwi.symm; subst hwi) | (go_at_call 54; refine (isx_b ⟨(Lib.trimPrefix [] [46]).toArray⟩ false isx_empty _).mono ?_; rintro e wi ⟨rfl, hwi⟩; replace hwi := hwi.symm; subst hwi))
  go_quiet (fail)
  clear y0 y1 y2
  have HC5 : Hid (CoB (w4.drewN nq) gc (.pointer none) x2 x1 false false false) := HC
  have HB5 := Lib.hid (below_drewM HB4.out nq)
  clear HC HB4 HR4
  clear k2 k3 k4 k5 k6
  generalize w4.drewN nq = w4d at *
  go_upto_region 24 with (go_at_call 20; refine (FN.out _).mono ?_; rintro e w5 ⟨⟨g, rfl, hv⟩, hb5⟩; have HN5 : Hid (Cn w w5 gc g (.pointer none) x2 x1 false false false a b c p m _) := Lib.hid ⟨HB5.out.trans (hb5.mono HB5.out.size), (hb5.block _ (blk_lt HC5.out)).trans HC5.out, hv, HG.out⟩; clear hv hb5)
  clear HC5 HB5 FN
  obtain ⟨c0, c1, c2, c3, c4, c5⟩ := HN5.out.con.cells
  have f1 := blk_frozen HN5.out.con 0
  go_upto_region 25 with (fail)
  have HN50 := Lib.hid (HN5.out.set0 (.pointer (some ⟨g, 0, none⟩)))
  clear c0 c1 c2 c3 c4 c5 f1 HN5
  generalize w5.setCell ⟨gc, 0, none⟩ (.pointer (some ⟨g, 0, none⟩)) = w50 at *
  obtain ⟨c0, c1, c2, c3, c4, c5⟩ := HN50.out.con.cells
  have f1 := blk_frozen HN50.out.con 3
  go_upto_region 26 with (fail)
  have HN53 := Lib.hid (HN50.out.set3 false)
  clear c0 c1 c2 c3 c4 c5 f1 HN50
  generalize w50.setCell ⟨gc, 3, none⟩ (.bool false) = w53 at *
  obtain ⟨c0, c1, c2, c3, c4, c5⟩ := HN53.out.con.cells
  have f1 := blk_frozen HN53.out.con 5
  go_upto_region 27 with (fail)
  have HN55 := Lib.hid (HN53.out.set5 true)
  clear c0 c1 c2 c3 c4 c5 f1 HN53
  generalize w53.setCell ⟨gc, 5, none⟩ (.bool true) = w55 at *
  obtain ⟨c0, c1, c2, c3, c4, c5⟩ := HN55.out.con.cells
  have f1 := blk_frozen HN55.out.con 4
  go_upto_region 28 with (fail)
  have HN54 := Lib.hid (HN55.out.set4 true)
  clear c0 c1 c2 c3 c4 c5 f1 HN55
  generalize w55.setCell ⟨gc, 4, none⟩ (.bool true) = w54 at *
  go_wp2
  go_ret2
  exact ⟨⟨_, _, rfl, HN54.out.con, HN54.out.ver⟩, HN54.out.below⟩
set_option maxHeartbeats 16000000 in
theorem parseC2_calls (s x1 x2 x3 x4 x5 x6 : ByteArray) (xs : List ByteArray) (a b c : Nat) (p m : ByteArray) (w : World)
    (FF : Hid (∀ (W : World) (re : Nat), Rx W re consL 1 24 11 1 4 → Calls Tryz.prog 44 #[.pointer (some ⟨re, 0, none⟩), .string s] W fun e w' => Below W.heap.size W w' ∧ ∃ v, e = .returned v ∧ w'.ownsRow W.heap.size 9 1 v 12 (xs.map Value.string)))
    (hx : Cap6 s xs x1 x2 x3 x4 x5 x6) (h3 : isXv x3 = false ∧ x3.data.toList ≠ []) (h4 : isXv (trimmed x4) = false ∧ x4.data.toList ≠ []) (h5 : isXv (trimmed x5) = true) (hn : NV (((x3 ++ x4) ++ (⟨#[46, 48]⟩ : ByteArray)) ++ x6) a b c p m) :
    Calls Tryz.prog 36 #[.string s] w fun e w' => (∃ gc g, e = .returned (.tuple #[.pointer (some ⟨gc, 0, none⟩), .nilIface]) ∧ CoB w' gc (.pointer (some ⟨g, 0, none⟩)) x2 x1 false true true ∧ Ver w' g a b c p m (((x3 ++ x4) ++ (⟨#[46, 48]⟩ : ByteArray)) ++ x6)) ∧ Below w.heap.size w w' := by
  have X := Lib.hid hx
  have FN := Lib.hid hn
  have hps := hx.pos
  have b0 : decide ((s.size : Int) > 0) = true := decide_eq_true (by omega)
  have b1 : decide ((0 : Int) < (s.size : Int)) = true := decide_eq_true (by omega)
  have b2 : (0 < s.size) = True := eq_true hps
  obtain ⟨n1, n2, n3, n4, n5⟩ := ne_isEmpty h3.2
  have H3 := Lib.hid h3.1
  clear h3
  obtain ⟨l1, l2, l3, l4, l5⟩ := ne_isEmpty h4.2
  have H4 := Lib.hid h4.1
  clear h4
  have H5 := Lib.hid h5
  clear h5
  have z3 := hx.s3
  have z4 := hx.s4
  have z6 := hx.s6
  clear hx hn hps
  go_enter Tryz.func36, Tryz.ntmps36
  go_wp2_with (first
    | (go_at_call 53; refine (expCo_calls _).mono ?_; rintro e w1 ⟨⟨re, rfl, hrx⟩, hb1⟩; have HB1 := Lib.hid hb1; have HRX := Lib.hid hrx; clear hb1 hrx)
    | (go_at_call 44; refine (FF.out _ _ HRX.out).mono ?_; rintro e w2 ⟨hb2, v, rfl, ho⟩; obtain ⟨gr, cr, rfl, hgr, k0⟩ := row_facts ho (by decide); have HB2 := Lib.hid (HB1.out.trans (hb2.mono HB1.out.size)); have k1 := k0 1 _ X.out.e1; have k2 := k0 2 _ X.out.e2; have HR2 : Hid (Rw w2 gr xs) := Lib.hid k0; have q1 := eq56 ⟨gr, 0, none⟩ 12 cr; clear hb2 ho k0 hgr))
  go_still_tail 7, (by kernel_rfl)
  change wpList _ _ _ _ _ w2.drew
  have HR3 : Hid (Rw w2.drew gr xs) := HR2
  have HB3 := Lib.hid (below_drew HB2.out)
  clear k1 k2 q1 HB1 HB2 HR2 HRX FF b0 b1 b2
  generalize w2.drew = w3 at *
  have HC : Hid (CoB (w3.alloc (.cells #[.pointer none, .string x2, .string x1, .bool false, .bool false, .bool false] 78)) w3.heap.size (.pointer none) x2 x1 false false false) := Lib.hid (heap_alloc_new w3 _)
  have HR4 := Lib.hid (HR3.out.below (below_new' w3 (.cells #[.pointer none, .string x2, .string x1, .bool false, .bool false, .bool false] 78)))
  have HB4 := Lib.hid (HB3.out.trans ((below_new' w3 (.cells #[.pointer none, .string x2, .string x1, .bool false, .bool false, .bool false] 78)).mono HB3.out.size))
  have HG := Lib.hid HB3.out.size
  clear HR3 HB3
  go_upto_region 6 with (fail)
  generalize w3.alloc (.cells #[.pointer none, .string x2, .string x1, .bool false, .bool false, .bool false] 78) = w4 at *
  generalize w3.heap.size = gc at *
  have k2 := HR4.out 2 _ X.out.e2
  have k3 := HR4.out 3 _ X.out.e3
  have k4 := HR4.out 4 _ X.out.e4
  have k5 := HR4.out 5 _ X.out.e5
  have k6 := HR4.out 6 _ X.out.e6
  have y0 : (x3 ++ x4).size = x3.size + x4.size := by rw [ByteArray.size_append]
  have y1 : ((x3 ++ x4) ++ (⟨#[46, 48]⟩ : ByteArray)).size = x3.size + x4.size + 2 := by rw [ByteArray.size_append, y0]; rfl
  have y2 : (((x3 ++ x4) ++ (⟨#[46, 48]⟩ : ByteArray)) ++ x6).size = x3.size + x4.size + 2 + x6.size := by rw [ByteArray.size_append, y1]
  go_upto_region 20 with (first | (go_at_call 54; refine (isx_b x3 false H3.out _).mono ?_; rintro e wi ⟨rfl, hwi⟩; replace hwi := hwi.symm; subst hwi) | (go_at_call 47; refine (Tryz.strings_TrimPrefix x4 ⟨#[46]⟩ _).mono ?_; rintro e wi ⟨rfl, hwi⟩; replace hwi := hwi.symm; subst hwi) | (go_at_call 54; refine (isx_b (trimmed x4) false H4.out _).mono ?_; rintro e wi ⟨rfl, hwi⟩; replace hwi := hwi.symm; subst hwi) | (go_at_call 47; refine (Tryz.strings_TrimPrefix x5 ⟨#[46]⟩ _).mono ?_; rintro e wi ⟨rfl, hwi⟩; replace hwi := hwi.symm; subst hwi) | (go_at_call 54; refine (isx_b (trimmed x5) true H5.out _).mono ?_; rintro e wi ⟨rfl, hwi⟩; replace hwi := hwi.symm; subst hwi))
  go_quiet (fail)
  clear y0 y1 y2
  have HC5 : Hid (CoB (w4.drewN nq) gc (.pointer none) x2 x1 false false false) := HC
  have HB5 := Lib.hid (below_drewM HB4.out nq)
  clear HC HB4 HR4
  clear k2 k3 k4 k5 k6
  generalize w4.drewN nq = w4d at *
  go_upto_region 24 with (go_at_call 20; refine (FN.out _).mono ?_; rintro e w5 ⟨⟨g, rfl, hv⟩, hb5⟩; have HN5 : Hid (Cn w w5 gc g (.pointer none) x2 x1 false false false a b c p m _) := Lib.hid ⟨HB5.out.trans (hb5.mono HB5.out.size), (hb5.block _ (blk_lt HC5.out)).trans HC5.out, hv, HG.out⟩; clear hv hb5)
  clear HC5 HB5 FN
  obtain ⟨c0, c1, c2, c3, c4, c5⟩ := HN5.out.con.cells
  have f1 := blk_frozen HN5.out.con 0
  go_upto_region 25 with (fail)
  have HN50 := Lib.hid (HN5.out.set0 (.pointer (some ⟨g, 0, none⟩)))
  clear c0 c1 c2 c3 c4 c5 f1 HN5
  generalize w5.setCell ⟨gc, 0, none⟩ (.pointer (some ⟨g, 0, none⟩)) = w50 at *
  obtain ⟨c0, c1, c2, c3, c4, c5⟩ := HN50.out.con.cells
  have f1 := blk_frozen HN50.out.con 3
  go_upto_region 26 with (fail)
  have HN53 := Lib.hid (HN50.out.set3 false)
  clear c0 c1 c2 c3 c4 c5 f1 HN50
  generalize w50.setCell ⟨gc, 3, none⟩ (.bool false) = w53 at *
  obtain ⟨c0, c1, c2, c3, c4, c5⟩ := HN53.out.con.cells
  have f1 := blk_frozen HN53.out.con 5
  go_upto_region 27 with (fail)
  have HN55 := Lib.hid (HN53.out.set5 true)
  clear c0 c1 c2 c3 c4 c5 f1 HN53
  generalize w53.setCell ⟨gc, 5, none⟩ (.bool true) = w55 at *
  obtain ⟨c0, c1, c2, c3, c4, c5⟩ := HN55.out.con.cells
  have f1 := blk_frozen HN55.out.con 4
  go_upto_region 28 with (fail)
  have HN54 := Lib.hid (HN55.out.set4 true)
  clear c0 c1 c2 c3 c4 c5 f1 HN55
  generalize w55.setCell ⟨gc, 4, none⟩ (.bool true) = w54 at *
  go_wp2
  go_ret2
  exact ⟨⟨_, _, rfl, HN54.out.con, HN54.out.ver⟩, HN54.out.below⟩
set_option maxHeartbeats 16000000 in
theorem parseD_calls (s x1 x2 x3 x4 x5 x6 : ByteArray) (xs : List ByteArray) (a b c : Nat) (p m : ByteArray) (w : World)
    (FF : Hid (∀ (W : World) (re : Nat), Rx W re consL 1 24 11 1 4 → Calls Tryz.prog 44 #[.pointer (some ⟨re, 0, none⟩), .string s] W fun e w' => Below W.heap.size W w' ∧ ∃ v, e = .returned v ∧ w'.ownsRow W.heap.size 9 1 v 12 (xs.map Value.string)))
    (hx : Cap6 s xs x1 x2 x3 x4 x5 x6) (h3 : isXv x3 = false ∧ x3.data.toList ≠ []) (h4 : isXv (trimmed x4) = false ∧ x4.data.toList ≠ []) (h5 : isXv (trimmed x5) = false ∧ x5.data.toList ≠ []) (hn : NV x2 a b c p m) :
    Calls Tryz.prog 36 #[.string s] w fun e w' => (∃ gc g, e = .returned (.tuple #[.pointer (some ⟨gc, 0, none⟩), .nilIface]) ∧ CoB w' gc (.pointer (some ⟨g, 0, none⟩)) x2 x1 false false false ∧ Ver w' g a b c p m x2) ∧ Below w.heap.size w w' := by
  have X := Lib.hid hx
  have FN := Lib.hid hn
  have hps := hx.pos
  have b0 : decide ((s.size : Int) > 0) = true := decide_eq_true (by omega)
  have b1 : decide ((0 : Int) < (s.size : Int)) = true := decide_eq_true (by omega)
  have b2 : (0 < s.size) = True := eq_true hps
  obtain ⟨n1, n2, n3, n4, n5⟩ := ne_isEmpty h3.2
  have H3 := Lib.hid h3.1
  clear h3
  obtain ⟨l1, l2, l3, l4, l5⟩ := ne_isEmpty h4.2
  have H4 := Lib.hid h4.1
  clear h4
  obtain ⟨m1, m2, m3, m4, m5⟩ := ne_isEmpty h5.2
  have H5 := Lib.hid h5.1
  clear h5
  have z3 := hx.s3
  have z4 := hx.s4
  have z6 := hx.s6
  clear hx hn hps
  go_enter Tryz.func36, Tryz.ntmps36
  go_wp2_with (first
    | (go_at_call 53; refine (expCo_calls _).mono ?_; rintro e w1 ⟨⟨re, rfl, hrx⟩, hb1⟩; have HB1 := Lib.hid hb1; have HRX := Lib.hid hrx; clear hb1 hrx)
    | (go_at_call 44; refine (FF.out _ _ HRX.out).mono ?_; rintro e w2 ⟨hb2, v, rfl, ho⟩; obtain ⟨gr, cr, rfl, hgr, k0⟩ := row_facts ho (by decide); have HB2 := Lib.hid (HB1.out.trans (hb2.mono HB1.out.size)); have k1 := k0 1 _ X.out.e1; have k2 := k0 2 _ X.out.e2; have HR2 : Hid (Rw w2 gr xs) := Lib.hid k0; have q1 := eq56 ⟨gr, 0, none⟩ 12 cr; clear hb2 ho k0 hgr))
  go_still_tail 7, (by kernel_rfl)
  change wpList _ _ _ _ _ w2.drew
  have HR3 : Hid (Rw w2.drew gr xs) := HR2
  have HB3 := Lib.hid (below_drew HB2.out)
  clear k1 k2 q1 HB1 HB2 HR2 HRX FF b0 b1 b2
  generalize w2.drew = w3 at *
  have HC : Hid (CoB (w3.alloc (.cells #[.pointer none, .string x2, .string x1, .bool false, .bool false, .bool false] 78)) w3.heap.size (.pointer none) x2 x1 false false false) := Lib.hid (heap_alloc_new w3 _)
  have HR4 := Lib.hid (HR3.out.below (below_new' w3 (.cells #[.pointer none, .string x2, .string x1, .bool false, .bool false, .bool false] 78)))
  have HB4 := Lib.hid (HB3.out.trans ((below_new' w3 (.cells #[.pointer none, .string x2, .string x1, .bool false, .bool false, .bool false] 78)).mono HB3.out.size))
  have HG := Lib.hid HB3.out.size
  clear HR3 HB3
  go_upto_region 6 with (fail)
  generalize w3.alloc (.cells #[.pointer none, .string x2, .string x1, .bool false, .bool false, .bool false] 78) = w4 at *
  generalize w3.heap.size = gc at *
  have k2 := HR4.out 2 _ X.out.e2
  have k3 := HR4.out 3 _ X.out.e3
  have k4 := HR4.out 4 _ X.out.e4
  have k5 := HR4.out 5 _ X.out.e5
  have k6 := HR4.out 6 _ X.out.e6
  go_upto_region 21 with (first | (go_at_call 54; refine (isx_b x3 false H3.out _).mono ?_; rintro e wi ⟨rfl, hwi⟩; replace hwi := hwi.symm; subst hwi) | (go_at_call 47; refine (Tryz.strings_TrimPrefix x4 ⟨#[46]⟩ _).mono ?_; rintro e wi ⟨rfl, hwi⟩; replace hwi := hwi.symm; subst hwi) | (go_at_call 54; refine (isx_b (trimmed x4) false H4.out _).mono ?_; rintro e wi ⟨rfl, hwi⟩; replace hwi := hwi.symm; subst hwi) | (go_at_call 47; refine (Tryz.strings_TrimPrefix x5 ⟨#[46]⟩ _).mono ?_; rintro e wi ⟨rfl, hwi⟩; replace hwi := hwi.symm; subst hwi) | (go_at_call 54; refine (isx_b (trimmed x5) false H5.out _).mono ?_; rintro e wi ⟨rfl, hwi⟩; replace hwi := hwi.symm; subst hwi))
  clear HR4 k2 k3 k4 k5 k6
  go_upto_region 24 with (go_at_call 20; refine (FN.out _).mono ?_; rintro e w5 ⟨⟨g, rfl, hv⟩, hb5⟩; have HN5 : Hid (Cn w w5 gc g (.pointer none) x2 x1 false false false a b c p m _) := Lib.hid ⟨HB4.out.trans (hb5.mono HB4.out.size), (hb5.block _ (blk_lt HC.out)).trans HC.out, hv, HG.out⟩; clear hv hb5)
  clear HC HB4 FN
  obtain ⟨c0, c1, c2, c3, c4, c5⟩ := HN5.out.con.cells
  have f1 := blk_frozen HN5.out.con 0
  go_upto_region 25 with (fail)
  have HN50 := Lib.hid (HN5.out.set0 (.pointer (some ⟨g, 0, none⟩)))
  clear c0 c1 c2 c3 c4 c5 f1 HN5
  generalize w5.setCell ⟨gc, 0, none⟩ (.pointer (some ⟨g, 0, none⟩)) = w50 at *
  obtain ⟨c0, c1, c2, c3, c4, c5⟩ := HN50.out.con.cells
  have f1 := blk_frozen HN50.out.con 3
  go_upto_region 26 with (fail)
  have HN53 := Lib.hid (HN50.out.set3 false)
  clear c0 c1 c2 c3 c4 c5 f1 HN50
  generalize w50.setCell ⟨gc, 3, none⟩ (.bool false) = w53 at *
  obtain ⟨c0, c1, c2, c3, c4, c5⟩ := HN53.out.con.cells
  have f1 := blk_frozen HN53.out.con 5
  go_upto_region 27 with (fail)
  have HN55 := Lib.hid (HN53.out.set5 false)
  clear c0 c1 c2 c3 c4 c5 f1 HN53
  generalize w53.setCell ⟨gc, 5, none⟩ (.bool false) = w55 at *
  obtain ⟨c0, c1, c2, c3, c4, c5⟩ := HN55.out.con.cells
  have f1 := blk_frozen HN55.out.con 4
  go_upto_region 28 with (fail)
  have HN54 := Lib.hid (HN55.out.set4 false)
  clear c0 c1 c2 c3 c4 c5 f1 HN55
  generalize w55.setCell ⟨gc, 4, none⟩ (.bool false) = w54 at *
  go_wp2
  go_ret2
  exact ⟨⟨_, _, rfl, HN54.out.con, HN54.out.ver⟩, HN54.out.below⟩
end Go.Proofs.YtekkaknpgdgjjaaGreatDoor.H
