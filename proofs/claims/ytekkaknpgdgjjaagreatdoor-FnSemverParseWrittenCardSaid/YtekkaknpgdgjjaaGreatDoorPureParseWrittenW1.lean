/- FnSemverParseWritten, stepped through: it answers true. -/
import Derived.Test.YtekkaknpgdgjjaaGreatDoorPWW1
import Derived.Test.YtekkaknpgdgjjaaGreatDoorGdW1
namespace Go.Proofs.YtekkaknpgdgjjaaGreatDoor.lawParseWritten
open Go.RowKit Go.Proofs.YtekkaknpgdgjjaaGreatDoor.PG Go.Proofs.YtekkaknpgdgjjaaGreatDoor.H
open Go.Proofs.YtekkaknpgdgjjaaGreatDoorW.PrintWords hiding Ev Ev.bind
set_option linter.unusedVariables false
set_option linter.unusedSimpArgs false
set_option maxRecDepth 100000

/-- Of what there was before nothing is touched, and a style stays one. -/
structure Sy (B : Nat) (w w' : World) : Prop where
  below : Below B w w'
  st : ∀ x, StB w x → StB w' x
theorem Sy.refl {B : Nat} (w : World) : Sy B w w := ⟨Below.refl _ _, fun _ h => h⟩
theorem Sy.trans {B : Nat} {a b c : World} (h : Sy B a b) (k : Sy B b c) : Sy B a c := ⟨h.below.trans k.below, fun x s => k.st x (h.st x s)⟩
theorem Sy.of {B : Nat} {w w' : World} (h : Below w.heap.size w w') (hB : B ≤ w.heap.size) : Sy B w w' := ⟨h.mono hB, fun x s => s.below h⟩
theorem TmB.sy {w w' : World} {g : Nat} {k n a b c : Int} {p : ByteArray} (h : TmB w g k n a b c p) (hs : Sy w.heap.size w.drew w') : TmB w' g k n a b c p := (hs.below.block g (blk_lt h)).trans h
def TxA (o : Int) (n : Nat) (u : Nat → Nat) (pre t : List UInt8) : Prop := ∃ t2, Tx o n u pre t t2
def TxB (o : Int) (n : Nat) (u : Nat → Nat) (pre t : List UInt8) : Prop := ∃ t1, Tx o n u pre t1 t
theorem fits_calls (o n a b c : Int) (p : ByteArray) (h : p.size ≤ 2147483647) (w : World) : Calls Tryz.prog 11 #[.agg #[.int .i64 o, .int .i64 n, .int .u64 a, .int .u64 b, .int .u64 c, .string p]] w fun e w' => e = .returned (.bool true) ∧ Below w.heap.size w w' :=
  laws_zzFits13.calls o n a b c p true w (by unfold laws_zzFits13.f; rw [if_neg (by omega)])
theorem wide_calls (o n a b c : Int) (p : ByteArray) (h : ¬ p.size ≤ 2147483647) (w : World) : Calls Tryz.prog 11 #[.agg #[.int .i64 o, .int .i64 n, .int .u64 a, .int .u64 b, .int .u64 c, .string p]] w fun e w' => e = .returned (.bool false) ∧ Below w.heap.size w w' :=
  laws_zzFits13.calls o n a b c p false w (by unfold laws_zzFits13.f; rw [if_pos (by omega)])
theorem good_calls (o n a b c : Int) (p : ByteArray) (h : p.size ≤ 2147483647) (w : World) : Calls Tryz.prog 12 #[.agg #[.int .i64 o, .int .i64 n, .int .u64 a, .int .u64 b, .int .u64 c, .string p]] w fun e w' => e = .returned (.bool (goodTerm o n a b c p)) ∧ Below w.heap.size w w' := by
  obtain ⟨k, hk⟩ := (goodTerm_ev o n a b c p (by omega)).get
  exact spec_GoodTerm.calls k o n a b c p _ w hk
theorem law1 (o n a b c : Int) (p : ByteArray) (st ah bh : Int) (w : World) (h : ¬ p.size ≤ 2147483647) :
    Calls Tryz.prog 4 #[.agg #[.int .i64 o, .int .i64 n, .int .u64 a, .int .u64 b, .int .u64 c, .string p], .int .u64 st, .int .u8 ah, .int .u8 bh] w fun e w' => e = .returned (.bool true) ∧ Below w.heap.size w w' := by
  have hu35 := Tryz.underlying35
  have HF := Lib.hid (fun W => wide_calls o n a b c p h W)
  clear h
  have hT : TmB (w.alloc (.cells #[.int .i64 o, .int .i64 n, .int .u64 a, .int .u64 b, .int .u64 c, .string p] 35)) w.heap.size o n a b c p := heap_alloc_new w _
  have HB := Lib.hid (below_new' w (.cells #[.int .i64 o, .int .i64 n, .int .u64 a, .int .u64 b, .int .u64 c, .string p] 35))
  obtain ⟨c0, c1, c2, c3, c4, c5⟩ := hT.cells
  clear hT
  go_enter Tryz.func4, Tryz.ntmps4
  go_wp2_with (go_at_call 11; refine (HF.out _).mono ?_; rintro e w1 ⟨rfl, hb⟩; have HB1 := Lib.hid (HB.out.trans (hb.mono HB.out.size)); clear hb)
  go_ret
  exact ⟨rfl, HB1.out⟩
theorem law2 (o n a b c : Int) (p : ByteArray) (st ah bh : Int) (w : World) (h : p.size ≤ 2147483647) (hg : goodTerm o n a b c p = false ∨ 64 < p.size) :
    Calls Tryz.prog 4 #[.agg #[.int .i64 o, .int .i64 n, .int .u64 a, .int .u64 b, .int .u64 c, .string p], .int .u64 st, .int .u8 ah, .int .u8 bh] w fun e w' => e = .returned (.bool true) ∧ Below w.heap.size w w' := by
  have hu35 := Tryz.underlying35
  have HF := Lib.hid (fun W => fits_calls o n a b c p h W)
  have HG := Lib.hid (fun W => good_calls o n a b c p h W)
  clear h
  have hT : Hid (TmB (w.alloc (.cells #[.int .i64 o, .int .i64 n, .int .u64 a, .int .u64 b, .int .u64 c, .string p] 35)) w.heap.size o n a b c p) := Lib.hid (heap_alloc_new w _)
  have HB := Lib.hid (below_new' w (.cells #[.int .i64 o, .int .i64 n, .int .u64 a, .int .u64 b, .int .u64 c, .string p] 35))
  obtain ⟨c0, c1, c2, c3, c4, c5⟩ := hT.out.cells
  cases hgv : goodTerm o n a b c p with
  | false =>
    rw [hgv] at HG
    clear hg hgv
    go_enter Tryz.func4, Tryz.ntmps4
    go_wp2_with (first
      | (go_at_call 11; refine (HF.out _).mono ?_; rintro e w1 ⟨rfl, hb⟩; have HB1 := Lib.hid (HB.out.trans (hb.mono HB.out.size)); have hT1 := Lib.hid (hT.out.below hb); obtain ⟨d0, d1, d2, d3, d4, d5⟩ := hT1.out.cells; clear hb)
      | (go_at_call 12; refine (HG.out _).mono ?_; rintro e w2 ⟨rfl, hb⟩; have HB2 := Lib.hid (HB1.out.trans (hb.mono HB1.out.size)); clear hb))
    go_ret
    exact ⟨rfl, HB2.out⟩
  | true =>
    rw [hgv] at HG
    have hs : 64 < p.size := hg.resolve_left (by rw [hgv]; simp)
    have b1 : decide ((64 : Int) < (p.size : Int)) = true := decide_eq_true (by omega)
    have b2 : decide ((p.size : Int) > 64) = true := decide_eq_true (by omega)
    have b3 : (64 < p.size) = True := eq_true hs
    clear hg hgv hs
    go_enter Tryz.func4, Tryz.ntmps4
    go_wp2_with (first
      | (go_at_call 11; refine (HF.out _).mono ?_; rintro e w1 ⟨rfl, hb⟩; have HB1 := Lib.hid (HB.out.trans (hb.mono HB.out.size)); have hT1 := Lib.hid (hT.out.below hb); obtain ⟨d0, d1, d2, d3, d4, d5⟩ := hT1.out.cells; clear hb)
      | (go_at_call 12; refine (HG.out _).mono ?_; rintro e w2 ⟨rfl, hb⟩; have HB2 := Lib.hid (HB1.out.trans (hb.mono HB1.out.size)); have hT2 := Lib.hid (hT1.out.below hb); obtain ⟨e0, e1, e2, e3, e4, e5⟩ := hT2.out.cells; clear hb))
    go_ret
    exact ⟨rfl, HB2.out⟩
set_option maxHeartbeats 16000000 in
theorem law3 (o : Int) (n a b c : Nat) (p : List UInt8) (st ah bh : Int) (w : World) (hs : p.length ≤ 64) (hg : goodTerm o n a b c (ba p) = true) (ho : 0 ≤ o ∧ o < 8) (hn : n ≤ 3) (ha : a ≤ 18446744073709551615) (hb : b ≤ 18446744073709551615) (hc : c ≤ 18446744073709551615)
    (h3 : n < 3 → c = 0 ∧ p = []) (h2 : n < 2 → b = 0) (h1 : n < 1 → a = 0) (hp : p = [] ∨ validPre p = true) (k1 : 0 ≤ ah ∧ ah ≤ 255) (k2 : 0 ≤ bh ∧ bh ≤ 255) :
    Calls Tryz.prog 4 #[.agg #[.int .i64 o, .int .i64 (n : Int), .int .u64 (a : Int), .int .u64 (b : Int), .int .u64 (c : Int), .string (ba p)], .int .u64 st, .int .u8 ah, .int .u8 bh] w fun e w' => e = .returned (.bool true) ∧ Below w.heap.size w w' := by
  have hu35 := Tryz.underlying35
  have hz : (ba p).size ≤ 64 := by rw [ba_size]; exact hs
  have HF := Lib.hid (fun W => fits_calls o n a b c (ba p) (by omega) W)
  have HG := Lib.hid (fun W => good_calls o n a b c (ba p) (by omega) W)
  rw [hg] at HG
  have HT : Hid (∀ (gs : Nat) (W : World), StB W gs → Calls Tryz.prog 13 #[.agg #[.int .i64 o, .int .i64 (n : Int), .int .u64 (a : Int), .int .u64 (b : Int), .int .u64 (c : Int), .string (ba p)], .pointer (some ⟨gs, 0, none⟩)] W fun e w' => (∃ t1 t2, e = .returned (.tuple #[.string (ba t1), .string (ba t2)]) ∧ Tx o n (num3 a b c) p t1 t2) ∧ Sg gs W w') := Lib.hid fun gs W hst => termtext_calls o n a b c p gs W hn ha hb hc hs (fun h => (h3 h).2) hst
  have HP : Hid (∀ t1 t2, Tx o n (num3 a b c) p t1 t2 → _) := Lib.hid fun t1 t2 h => tx_terms ho hn ha hb hc h3 h2 h1 hp hs h
  have K1 := Lib.hid (fun W => blanks_calls ah k1.1 k1.2 W)
  have K2 := Lib.hid (fun W => blanks_calls bh k2.1 k2.2 W)
  have b1 : decide ((64 : Int) < ((ba p).size : Int)) = false := decide_eq_false (by omega)
  have b2 : decide (((ba p).size : Int) > 64) = false := decide_eq_false (by omega)
  have b3 : (64 < (ba p).size) = False := eq_false (by omega)
  have b4 : (64 < p.length) = False := eq_false (by omega)
  have b5 : decide ((64 : Int) < (p.length : Int)) = false := decide_eq_false (by omega)
  clear hg ho hn ha hb hc h3 h2 h1 hp k1 k2 hs
  have hT : Hid (TmB (w.alloc (.cells #[.int .i64 o, .int .i64 (n : Int), .int .u64 (a : Int), .int .u64 (b : Int), .int .u64 (c : Int), .string (ba p)] 35)) w.heap.size o n a b c (ba p)) := Lib.hid (heap_alloc_new w _)
  have HB := Lib.hid (below_new' w (.cells #[.int .i64 o, .int .i64 (n : Int), .int .u64 (a : Int), .int .u64 (b : Int), .int .u64 (c : Int), .string (ba p)] 35))
  obtain ⟨c0, c1, c2, c3, c4, c5⟩ := hT.out.cells
  go_enter Tryz.func4, Tryz.ntmps4
  go_wp2_with (first
      | (go_at_call 11; refine (HF.out _).mono ?_; rintro e w1 ⟨rfl, hb⟩; have HB1 := Lib.hid (HB.out.trans (hb.mono HB.out.size)); have hT1 := Lib.hid (hT.out.below hb); obtain ⟨d0, d1, d2, d3, d4, d5⟩ := hT1.out.cells; clear hb)
      | (go_at_call 12; refine (HG.out _).mono ?_; rintro e w2 ⟨rfl, hb⟩; have HB2 := Lib.hid (HB1.out.trans (hb.mono HB1.out.size)); have hT2 := Lib.hid (hT1.out.below hb); obtain ⟨e0, e1, e2, e3, e4, e5⟩ := hT2.out.cells; clear hb))
  clear c0 c1 c2 c3 c4 c5 d0 d1 d2 d3 d4 d5 e0 e1 e2 e3 e4 e5 b1 b2 b3 b4 b5 HF HG hT hT1 HB HB1 hz
  obtain ⟨gt, hgt⟩ : ∃ gt, Hid (w.heap.size = gt) := ⟨_, Lib.hid rfl⟩
  rw [hgt.out] at hT2 ⊢
  refine region_row mixed (by kernel_rfl) (fun i wv v => match i with
      | 0 => v = .agg #[.int .i64 o, .int .i64 (n : Int), .int .u64 (a : Int), .int .u64 (b : Int), .int .u64 (c : Int), .string (ba p)]
      | 1 => v = .int .u64 st
      | 2 => ∃ g : Nat, v = .pointer (some ⟨g, 0, none⟩) ∧ StB wv g ∧ w2.heap.size ≤ g
      | 3 => ∃ t1 t2 : List UInt8, v = .tuple #[.string (ba t1), .string (ba t2)] ∧ Tx o n (num3 a b c) p t1 t2
      | 4 => ∃ t1 t2 : List UInt8, v = .tuple #[.string (ba t1), .string (ba t2)] ∧ Tx o n (num3 a b c) p t1 t2
      | 5 => ∃ t : List UInt8, v = .string (ba t) ∧ TxA o n (num3 a b c) p t
      | 6 => ∃ t : List UInt8, v = .string (ba t) ∧ TxB o n (num3 a b c) p t
      | 7 => ∃ t : List UInt8, v = .string (ba t) ∧ TxA o n (num3 a b c) p t
      | 8 => ∃ t : List UInt8, v = .string (ba t) ∧ TxB o n (num3 a b c) p t
      | _ => True) (Sy w2.heap.size) (Sy.refl _) Sy.trans ?_ ?_ ?_
  · intro i v w1 w2 h hr
    match i, h with
    | 2, h => exact (by obtain ⟨g, hv, hg, hl⟩ := h; exact ⟨g, hv, hr.st g hg, hl⟩)
    | 3, h => exact h
    | 4, h => exact h
    | 5, h => exact h
    | 6, h => exact h
    | 7, h => exact h
    | 8, h => exact h
    | 0, h | 1, h | _ + 9, h => exact h
  · refine ⟨?_, ?_, ?_, ?_, ?_, ?_, ?_, ?_, ?_, trivial⟩
    · intro x wx hR hd hs
      have e4 := ev_of (hs 4 (by kernel_rfl) : x.eval (.tmp 4) = .pointer (some ⟨gt, 0, none⟩))
      obtain ⟨c0, c1, c2, c3, c4, c5⟩ := (TmB.sy hT2.out hR).cells
      clear hd hs
      refine wpOp_plain rfl rfl ?_
      go_simp
      exact ⟨_, rfl, rfl, Sy.refl _⟩
    · intro x wx hR hd hs
      have e1 := ev_of (hs 1 (by kernel_rfl) : x.eval (.tmp 1) = .int .u64 st)
      clear hd hs
      refine wpOp_plain rfl rfl ?_
      go_simp
      exact ⟨_, rfl, rfl, Sy.refl _⟩
    · intro x wx hR hd hs
      have e29 := ev_of (hd 1 _ 29 rfl rfl (by kernel_rfl) : x.eval (.tmp 29) = .int .u64 st)
      clear hd hs
      refine wpOp_plain rfl rfl ?_
      go_simp
      refine (style_calls st _).mono ?_
      rintro e w1 ⟨⟨g, rfl, hg, hl⟩, hb⟩
      exact ⟨_, rfl, ⟨g, rfl, hg, Nat.le_trans (show w2.heap.size ≤ wx.heap.size from hR.below.size) hl⟩, Sy.of hb hR.below.size⟩
    · intro x wx hR hd hs
      have e28 := ev_of (hd 0 _ 28 rfl rfl (by kernel_rfl) : x.eval (.tmp 28) = .agg #[.int .i64 o, .int .i64 (n : Int), .int .u64 (a : Int), .int .u64 (b : Int), .int .u64 (c : Int), .string (ba p)])
      obtain ⟨u30, hu30, hp30⟩ : ∃ u, x.eval (.tmp 30) = u ∧ ∃ g : Nat, u = .pointer (some ⟨g, 0, none⟩) ∧ StB wx g ∧ w2.heap.size ≤ g := ⟨_, rfl, hd 2 _ 30 rfl rfl (by kernel_rfl)⟩
      obtain ⟨g, rfl, hg, hl⟩ := hp30
      have e30 := ev_of hu30
      clear hd hs
      refine wpOp_plain rfl rfl ?_
      go_simp
      refine (HT.out g _ hg).mono ?_
      rintro e w1 ⟨⟨t1, t2, rfl, ht⟩, hsg⟩
      exact ⟨_, rfl, ⟨t1, t2, rfl, ht⟩, ⟨hsg.below hl hR.below.size, fun x hx => hsg.all hx⟩⟩
    · intro x wx hR hd hs
      obtain ⟨u31, hu31, hp31⟩ : ∃ u, x.eval (.tmp 31) = u ∧ ∃ t1 t2 : List UInt8, u = .tuple #[.string (ba t1), .string (ba t2)] ∧ Tx o n (num3 a b c) p t1 t2 := ⟨_, rfl, hd 3 _ 31 rfl rfl (by kernel_rfl)⟩
      obtain ⟨t1, t2, rfl, ht⟩ := hp31
      have e31 := ev_of hu31
      clear hd hs
      refine wpOp_plain rfl rfl ?_
      go_simp
      exact ⟨_, rfl, ⟨t1, t2, rfl, ht⟩, Sy.refl _⟩
    · intro x wx hR hd hs
      obtain ⟨u27, hu27, hp27⟩ : ∃ u, x.eval (.tmp 27) = u ∧ ∃ t1 t2 : List UInt8, u = .tuple #[.string (ba t1), .string (ba t2)] ∧ Tx o n (num3 a b c) p t1 t2 := ⟨_, rfl, hd 4 _ 27 rfl rfl (by kernel_rfl)⟩
      obtain ⟨t1, t2, rfl, ht⟩ := hp27
      have e27 := ev_of hu27
      clear hd hs
      refine wpOp_plain rfl rfl ?_
      go_simp
      exact ⟨_, rfl, ⟨t1, rfl, t2, ht⟩, Sy.refl _⟩
    · intro x wx hR hd hs
      obtain ⟨u27, hu27, hp27⟩ : ∃ u, x.eval (.tmp 27) = u ∧ ∃ t1 t2 : List UInt8, u = .tuple #[.string (ba t1), .string (ba t2)] ∧ Tx o n (num3 a b c) p t1 t2 := ⟨_, rfl, hd 4 _ 27 rfl rfl (by kernel_rfl)⟩
      obtain ⟨t1, t2, rfl, ht⟩ := hp27
      have e27 := ev_of hu27
      clear hd hs
      refine wpOp_plain rfl rfl ?_
      go_simp
      exact ⟨_, rfl, ⟨t2, rfl, t1, ht⟩, Sy.refl _⟩
    · intro x wx hR hd hs
      obtain ⟨u32, hu32, hp32⟩ : ∃ u, x.eval (.tmp 32) = u ∧ ∃ t : List UInt8, u = .string (ba t) ∧ TxA o n (num3 a b c) p t := ⟨_, rfl, hd 5 _ 32 rfl rfl (by kernel_rfl)⟩
      obtain ⟨t, rfl, ht⟩ := hp32
      have e32 := ev_of hu32
      clear hd hs
      refine wpOp_plain rfl rfl ?_
      go_simp
      exact ⟨_, rfl, ⟨t, rfl, ht⟩, Sy.refl _⟩
    · intro x wx hR hd hs
      obtain ⟨u33, hu33, hp33⟩ : ∃ u, x.eval (.tmp 33) = u ∧ ∃ t : List UInt8, u = .string (ba t) ∧ TxB o n (num3 a b c) p t := ⟨_, rfl, hd 6 _ 33 rfl rfl (by kernel_rfl)⟩
      obtain ⟨t, rfl, ht⟩ := hp33
      have e33 := ev_of hu33
      clear hd hs
      refine wpOp_plain rfl rfl ?_
      go_simp
      exact ⟨_, rfl, ⟨t, rfl, ht⟩, Sy.refl _⟩
  · intro vs wq hl hR hv
    obtain ⟨v0, v1, v2, v3, v4, v5, v6, v7, v8, rfl⟩ := list_9 hl
    obtain rfl : .agg #[.int .i64 o, .int .i64 (n : Int), .int .u64 (a : Int), .int .u64 (b : Int), .int .u64 (c : Int), .string (ba p)] = v0 := (hv 0 v0 rfl).symm
    obtain rfl : .int .u64 st = v1 := (hv 1 v1 rfl).symm
    have hv2 : ∃ g : Nat, v2 = .pointer (some ⟨g, 0, none⟩) ∧ StB wq g ∧ w2.heap.size ≤ g := hv 2 v2 rfl
    have hv3 : ∃ t1 t2 : List UInt8, v3 = .tuple #[.string (ba t1), .string (ba t2)] ∧ Tx o n (num3 a b c) p t1 t2 := hv 3 v3 rfl
    have hv4 : ∃ t1 t2 : List UInt8, v4 = .tuple #[.string (ba t1), .string (ba t2)] ∧ Tx o n (num3 a b c) p t1 t2 := hv 4 v4 rfl
    have hv5 : ∃ t : List UInt8, v5 = .string (ba t) ∧ TxA o n (num3 a b c) p t := hv 5 v5 rfl
    have hv6 : ∃ t : List UInt8, v6 = .string (ba t) ∧ TxB o n (num3 a b c) p t := hv 6 v6 rfl
    have hv7 : ∃ t : List UInt8, v7 = .string (ba t) ∧ TxA o n (num3 a b c) p t := hv 7 v7 rfl
    have hv8 : ∃ t : List UInt8, v8 = .string (ba t) ∧ TxB o n (num3 a b c) p t := hv 8 v8 rfl
    clear hv hl
    simp only [List.map_cons, List.map_nil, putAll, Act.put, List.setIfInBounds_toArray, List.set_cons_zero, List.set_cons_succ]
    obtain ⟨t1, rfl, s2, hx1⟩ := hv7
    obtain ⟨t2, rfl, s1, hx2⟩ := hv8
    clear hv2 hv3 hv4 hv5 hv6
    have hT3 := Lib.hid (TmB.sy hT2.out hR)
    have HB3 := Lib.hid (HB2.out.trans (show Below w.heap.size w2 wq from ⟨hR.below.os, hR.below.tape, hR.below.output, hR.below.size, fun x hx => hR.below.block x (Nat.lt_of_lt_of_le hx HB2.out.size)⟩))
    obtain ⟨P1, _, q1, _⟩ := HP.out t1 s2 hx1
    obtain ⟨_, P2, _, q2⟩ := HP.out s1 t2 hx2
    simp only [List.append_assoc] at P1
    have PP1 := Lib.hid P1
    have PP2 := Lib.hid P2
    clear P1 P2 hx1 hx2 HT HP hT2 HB2 hR
    generalize wq = w3 at *
    go_upto_region 7 with (first
      | (go_at_call 16; refine (K1.out _).mono ?_; rintro e w4 ⟨⟨l1, rfl, hl1⟩, hb⟩; have HB4 := Lib.hid (HB3.out.trans (hb.mono HB3.out.size)); have hT4 := Lib.hid (hT3.out.below hb); have HL1 := Lib.hid hl1; have m1 : l1.length ≤ 3 := hl1.2; have e1 : ba l1 ++ ba t1 = ba (l1 ++ t1) := ba_app _ _; have z1 : (ba l1).size ≤ 3 := (by rw [ba_size]; exact m1); have z2 : (ba t1).size ≤ 141 := (by rw [ba_size]; exact q1); have z3 : (ba (l1 ++ t1)).size ≤ 144 := (by rw [ba_size, List.length_append]; omega); clear hb hl1 K1)
      | (go_at_call 16; refine (K2.out _).mono ?_; rintro e w5 ⟨⟨l2, rfl, hl2⟩, hb⟩; have HB5 := Lib.hid (HB4.out.trans (hb.mono HB4.out.size)); have hT5 := Lib.hid (hT4.out.below hb); have HL2 := Lib.hid hl2; have m2 : l2.length ≤ 3 := hl2.2; have e2 : ba (l1 ++ t1) ++ ba l2 = ba (l1 ++ (t1 ++ l2)) := (by rw [ba_app, List.append_assoc]); have z4 : (ba l2).size ≤ 3 := (by rw [ba_size]; exact m2); have z5 : (ba (l1 ++ (t1 ++ l2))).size ≤ 147 := (by rw [ba_size, List.length_append, List.length_append]; omega); clear hb hl2)
      | (go_at_call 15; refine (PP1.out l1 l2 _ HL1.out.1 HL1.out.2 HL2.out.1 HL2.out.2).mono ?_; rintro e w6 ⟨rfl, hb⟩; have HB6 := Lib.hid (HB5.out.trans (hb.mono HB5.out.size)); have hT6 := Lib.hid (hT5.out.below hb); clear hb))
    clear e1 z1 z2 z3 e2 z4 z5 HB3 HB4 HB5 hT3 hT4 hT5 K2 PP1
    have TA : Hid (TmB (w6.alloc (.cells #[.int .i64 o, .int .i64 (n : Int), .int .u64 (a : Int), .int .u64 (b : Int), .int .u64 (c : Int), .string (ba p)] 35)) w6.heap.size o n a b c (ba p)) := Lib.hid (heap_alloc_new w6 _)
    have hTA := Lib.hid (hT6.out.below (below_new' w6 (.cells #[.int .i64 o, .int .i64 (n : Int), .int .u64 (a : Int), .int .u64 (b : Int), .int .u64 (c : Int), .string (ba p)] 35)))
    have HBA := Lib.hid (HB6.out.trans ((below_new' w6 (.cells #[.int .i64 o, .int .i64 (n : Int), .int .u64 (a : Int), .int .u64 (b : Int), .int .u64 (c : Int), .string (ba p)] 35)).mono HB6.out.size))
    clear HB6 hT6
    generalize w6.alloc (.cells #[.int .i64 o, .int .i64 (n : Int), .int .u64 (a : Int), .int .u64 (b : Int), .int .u64 (c : Int), .string (ba p)] 35) = wA at *
    generalize w6.heap.size = gA at *
    go_upto_region 8 with (go_at_call 15; refine (PP2.out _).mono ?_; rintro e w7 ⟨rfl, hb⟩; have HB7 := Lib.hid (HBA.out.trans (hb.mono HBA.out.size)); have hT7 := Lib.hid (hTA.out.below hb); have TA7 := Lib.hid (TA.out.below hb); clear hb)
    clear TA hTA HBA PP2
    have TC : Hid (TmB (w7.alloc (.cells #[.int .i64 o, .int .i64 (n : Int), .int .u64 (a : Int), .int .u64 (b : Int), .int .u64 (c : Int), .string (ba p)] 35)) w7.heap.size o n a b c (ba p)) := Lib.hid (heap_alloc_new w7 _)
    have hTC := Lib.hid (hT7.out.below (below_new' w7 (.cells #[.int .i64 o, .int .i64 (n : Int), .int .u64 (a : Int), .int .u64 (b : Int), .int .u64 (c : Int), .string (ba p)] 35)))
    have TAC := Lib.hid (TA7.out.below (below_new' w7 (.cells #[.int .i64 o, .int .i64 (n : Int), .int .u64 (a : Int), .int .u64 (b : Int), .int .u64 (c : Int), .string (ba p)] 35)))
    have HBC := Lib.hid (HB7.out.trans ((below_new' w7 (.cells #[.int .i64 o, .int .i64 (n : Int), .int .u64 (a : Int), .int .u64 (b : Int), .int .u64 (c : Int), .string (ba p)] 35)).mono HB7.out.size))
    clear HB7 hT7 TA7
    generalize w7.alloc (.cells #[.int .i64 o, .int .i64 (n : Int), .int .u64 (a : Int), .int .u64 (b : Int), .int .u64 (c : Int), .string (ba p)] 35) = wC at *
    generalize w7.heap.size = gC at *
    obtain ⟨c0, c1, c2, c3, c4, c5⟩ := TC.out.cells
    obtain ⟨d0, d1, d2, d3, d4, d5⟩ := hTC.out.cells
    obtain ⟨f0, f1, f2, f3, f4, f5⟩ := TAC.out.cells
    go_wp2_with fail
    go_ret
    exact ⟨rfl, HBC.out⟩
theorem law (o n a b c : Int) (p : ByteArray) (st ah bh : Int) (W : World) (ya : 0 ≤ a ∧ a ≤ 18446744073709551615) (yb : 0 ≤ b ∧ b ≤ 18446744073709551615) (yc : 0 ≤ c ∧ c ≤ 18446744073709551615) (k1 : 0 ≤ ah ∧ ah ≤ 255) (k2 : 0 ≤ bh ∧ bh ≤ 255) :
    Calls Tryz.prog 4 #[.agg #[.int .i64 o, .int .i64 n, .int .u64 a, .int .u64 b, .int .u64 c, .string p], .int .u64 st, .int .u8 ah, .int .u8 bh] W fun e w' => e = .returned (.bool true) ∧ Below W.heap.size W w' := by
  by_cases hs : p.size ≤ 2147483647
  · by_cases hg : goodTerm o n a b c p = false ∨ 64 < p.size
    · exact law2 o n a b c p st ah bh W hs hg
    · have hg1 : goodTerm o n a b c p = true := by
        cases h : goodTerm o n a b c p with
        | true => rfl
        | false => exact absurd (.inl h) hg
      have hl : p.size ≤ 64 := Nat.le_of_not_lt fun h => hg (.inr h)
      obtain ⟨q1, q2, q3, q4, q5, q6, q7, q8, _, _⟩ := goodTerm_iff hg1
      obtain ⟨n', rfl⟩ : ∃ m : Nat, n = m := ⟨n.toNat, by omega⟩
      obtain ⟨a', rfl⟩ : ∃ m : Nat, a = m := ⟨a.toNat, by omega⟩
      obtain ⟨b', rfl⟩ : ∃ m : Nat, b = m := ⟨b.toNat, by omega⟩
      obtain ⟨c', rfl⟩ : ∃ m : Nat, c = m := ⟨c.toNat, by omega⟩
      obtain ⟨p', rfl⟩ : ∃ l : List UInt8, p = ba l := ⟨p.data.toList, eq_of_data (by rw [ba_data])⟩
      rw [ba_data] at q5 q6
      rw [ba_size] at hl
      exact law3 o n' a' b' c' p' st ah bh W hl hg1 ⟨q1, q2⟩ (by omega) (by omega) (by omega) (by omega) (fun h => ⟨by have := (q6 (by omega)).1; omega, (q6 (by omega)).2⟩) (fun h => by have := q7 (by omega); omega) (fun h => by have := q8 (by omega); omega) (q5.imp_right And.left) k1 k2
  · exact law1 o n a b c p st ah bh W hs
end Go.Proofs.YtekkaknpgdgjjaaGreatDoor.lawParseWritten
