/- impl.VersionsLess: a list of versions turned to pointers, and two of them compared. -/
import Derived.Test.YtgenbmhmcnaiiaaDoorPGx0K9
import Derived.Test.YtgenbmhmcnaiiaaDoorHaEvK9
import Derived.Test.YtgenbmhmcnaiiaaDoorHaVCmpK9
namespace Go.Proofs.YtgenbmhmcnaiiaaDoor.H
open Go.RowKit Go.Proofs.YtgenbmhmcnaiiaaDoor.PG Go.Proofs.YtgenbmhmcnaiiaaDoorW.PrintWords Go.Proofs.YtgenbmhmcnaiiaaDoorW.PrintLast Go.Proofs.YtgenbmhmcnaiiaaDoorW.PrintMore
set_option linter.unusedVariables false
set_option linter.unusedSimpArgs false

/-- A pointer to a version of its own. -/
def VerAt (w : World) (g : Nat) (x : S27) : Prop := Ver w g x.f0 x.f1 x.f2 x.f3 x.f4 ⟨#[]⟩
def kV : Kd S27 where
  sz := 1
  E := [88]
  K w x cs := ∃ g, cs = [.pointer (some ⟨g, 0, none⟩)] ∧ VerAt w g x
  M w base ok x cs := ∃ g, cs = [.pointer (some ⟨g, 0, none⟩)] ∧ ok g ∧ base ≤ g ∧ VerAt w g x
  K_len := by rintro w x cs ⟨g, rfl, _⟩; rfl
  K_one := by
    rintro w x cs ⟨g, rfl, _⟩ u hu
    simp only [List.mem_cons, List.not_mem_nil, or_false] at hu
    subst hu
    rfl
  K_below := by rintro w w1 x cs hb ⟨g, rfl, h⟩; exact ⟨g, rfl, Ver.below h hb⟩
  K_of_M := by rintro w base ok x cs ⟨g, rfl, _, _, h⟩; exact ⟨g, rfl, h⟩
  M_mono := by rintro w base ok ok' x cs hk ⟨g, rfl, h1, h2, h3⟩; exact ⟨g, rfl, hk g h1, h2, h3⟩
  M_bound := by
    rintro w base ok x cs ⟨g, rfl, h1, h2, h3⟩
    exact ⟨g, rfl, ⟨h1, h2, blk_lt h3, 88, by simp, _, h3⟩, h2, h3⟩
  M_move := by
    rintro w w1 base ok x cs hm ⟨g, rfl, h1, h2, h3⟩
    exact ⟨g, rfl, h1, h2, (hm g h1).trans h3⟩
  M_lower := by rintro w base base' ok x cs hb ⟨g, rfl, h1, h2, h3⟩; exact ⟨g, rfl, h1, by omega, h3⟩

theorem info82 : (Tryd.prog.info? 82).map (fun i => (i.zero, i.size, i.bytes)) = some (some (.pointer none), 1, 8) := by kernel_rfl
theorem take_next {l : List S27} {x : Int} (hl : l.length ≤ 8796093022207) (h0 : 0 ≤ x) (h1 : x < (l.length : Int)) : l.take x.toNat ++ [rd_T27 l x] = l.take (wrap64 (x + 1)).toNat := by
  have hx : x.toNat < l.length := by omega
  have e : (wrap64 (x + 1)).toNat = x.toNat + 1 := by unfold wrap64; omega
  rw [e, List.take_add_one, List.getElem?_eq_getElem hx]
  simp [rd_T27, List.getD_eq_getElem?_getD, List.getElem?_eq_getElem hx]
theorem kV_empty (w : World) : Kd.R kV 82 (w.alloc (.cells #[] 82)) w.heap.size (fun _ => True) (.slice (some ⟨w.heap.size, 0, none⟩) 0 0) [] :=
  ⟨fun _ _ => trivial, [], World.ownsRow_lit (base := w.heap.size) (e := 82) (size := 1) w #[] 0 (Nat.le_refl _) (by decide) rfl, Reps.none _ _⟩

set_option maxRecDepth 100000 in
set_option maxHeartbeats 8000000 in
theorem ptrs_calls (A0 : Option Addr) (c0 : Nat) (l0 : List S27) (w : World) (hr0 : Kd.C k27 w A0 l0.length l0) (hc0 : l0.length ≤ c0) (hl : l0.length ≤ 8796093022207) :
    Calls Tryd.prog 93 #[.slice A0 l0.length c0] w fun e w' => ∃ v, e = .returned v ∧ Kd.R kV 82 w' w.heap.size (fun _ => True) v l0 ∧ Below w.heap.size w w' := by
  have hu27 := Tryd.underlying27
  have HR0 := Aside0.mk hr0
  have HC0 := Aside0.mk hc0
  clear hr0 hc0
  have HB := Aside0.mk (Below.refl w.heap.size w)
  obtain ⟨k, hk⟩ : ∃ k, k = l0.length + 1 := ⟨_, rfl⟩
  go_enter Tryd.func93, Tryd.ntmps93
  go_wp2
  go_loopg [3, 9] k (fun kq v3 v9 w' => ∃ (x9 : Int), v9 = .int .i64 x9 ∧ Aside0 (x9.toNat + kq = l0.length + 1) ∧ Aside0 (0 ≤ x9 ∧ x9 ≤ l0.length) ∧ Aside0 (kq ≤ k) ∧ Aside0 (Kd.R kV 82 w' w.heap.size (fun _ => True) v3 (l0.take x9.toNat)) ∧ Aside0 (Below w.heap.size w w'))
  case atStart => exact ⟨0, rfl, ⟨by simp [hk]⟩, ⟨by omega⟩, ⟨Nat.le_refl _⟩, ⟨kV_empty w⟩, ⟨below_new _ _⟩⟩
  case round =>
    obtain ⟨x9, rfl, HA, HX, HK, HO, HB⟩ := hrel
    cases gk with
    | zero => exact absurd HA.out (by have := HX.out; omega)
    | succ k1 =>
      have HL := Aside0.mk hl
      clear hl hk
      by_cases c2 : x9 < (l0.length : Int)
      · have c2b0 : decide (x9 < (l0.length : Int)) = true := decide_eq_true c2
        have p170 : 0 ≤ (x9 : Int) := HX.out.1
        have q170 : x9 < (l0.length : Int) := c2
        have T := Aside0.mk (take_next HL.out p170 q170)
        have W1 : Aside0 ((wrap64 (x9 + 1)).toNat + k1 = l0.length + 1 ∧ 0 ≤ wrap64 (x9 + 1) ∧ wrap64 (x9 + 1) ≤ l0.length) := ⟨by have := HL.out; have := HA.out; unfold wrap64; omega⟩
        obtain ⟨ad170, e170, hx170_0, hx170_1, hx170_2, hx170_3, hx170_4⟩ := at_T27 HR0.out x9 p170 q170
        cases e170
        replace hx170_0 := (HB.out.cell (World.block_lt_of_cell? w _ hx170_0)).trans hx170_0
        replace hx170_1 := (HB.out.cell (World.block_lt_of_cell? w _ hx170_1)).trans hx170_1
        replace hx170_2 := (HB.out.cell (World.block_lt_of_cell? w _ hx170_2)).trans hx170_2
        replace hx170_3 := (HB.out.cell (World.block_lt_of_cell? w _ hx170_3)).trans hx170_3
        replace hx170_4 := (HB.out.cell (World.block_lt_of_cell? w _ hx170_4)).trans hx170_4
        replace p170 := eq_true p170
        replace q170 := eq_true q170
        clear c2
        generalize hvx : rd_T27 l0 x9 = vx at *
        go_wp2_with (first
          | ((with_reducible refine gate_dst (N := 5) rfl ?_); refine box_event ?hg (N := 5) ?hd (cs := #[.int .u64 0, .int .u64 0, .int .u64 0, .string (⟨#[]⟩ : ByteArray), .string (⟨#[]⟩ : ByteArray)]) (t := 27) ?hr ?_; (case hd => rfl); (case hg => rfl); (case hr => first | (go_simp; done) | (go_simp; rfl) | (go_simp; simp [IntKind.wrap_u8]; done)); intro gb hg w9 hbox hb; have GG := Aside0.mk (show wr.heap.size ≤ gb by rw [hg]; exact Nat.le_refl _); have BK := Aside0.mk hbox; have BL := Aside0.mk hb; clear hb hbox hg; have hcz0 : w9.cell? ⟨gb, 0, none⟩ = some (.int .u64 0) := (blk_cell BK.out 0).trans rfl; have hcz1 : w9.cell? ⟨gb, 1, none⟩ = some (.int .u64 0) := (blk_cell BK.out 1).trans rfl; have hcz2 : w9.cell? ⟨gb, 2, none⟩ = some (.int .u64 0) := (blk_cell BK.out 2).trans rfl; have hcz3 : w9.cell? ⟨gb, 3, none⟩ = some (.string (⟨#[]⟩ : ByteArray)) := (blk_cell BK.out 3).trans rfl; have hcz4 : w9.cell? ⟨gb, 4, none⟩ = some (.string (⟨#[]⟩ : ByteArray)) := (blk_cell BK.out 4).trans rfl; have hfz0 := blk_frozen BK.out 0; have hfz1 := blk_frozen BK.out 1; have hfz2 := blk_frozen BK.out 2; have hfz3 := blk_frozen BK.out 3; have hfz4 := blk_frozen BK.out 4)
          | (go_at_call 79; refine (version_calls _ _ _ _ _ _).mono ?_; rintro e w10 ⟨⟨v, rfl, g, rfl, hv, hgw⟩, hb2⟩; have BM : Aside0 (Below wr.heap.size wr w10) := Aside0.mk (below_step (below_set (below_set (below_set (below_set (below_set BL.out GG.out) GG.out) GG.out) GG.out) GG.out) hb2); have GX : Aside0 (w9.heap.size ≤ g) := ⟨by simpa using hgw⟩; have HV := Aside0.mk hv; clear hv hgw hb2)
          | ((with_reducible refine gate_builtin (b := .append) (xs := #[.tmp 13, .tmp 16]) rfl ?_); at_builtin; refine Kd.R_append kV (w0 := w) w.heap.size rfl (.tmp 13) (.tmp 16) 97 82 (.pointer none) 8 rfl Tryd.underlying97 info82 rfl (by decide) (by omega) u3 (l0.take x9.toNat) vx [.pointer (some ⟨g, 0, none⟩)] (fun _ => True) (fun k => k = g) rfl rfl ?aP ?aQ ?aF ?aO ?aB ?aS ?aL ?_; (case aP => exact ⟨g, rfl, rfl, Nat.le_trans HB.out.size (Nat.le_trans BL.out.size GX.out), HV.out⟩); (case aQ => intro k hk; subst hk; exact ⟨trivial, fun e => by have h1 := Kd.R_lt HO.out _ e.symm; have h2 := GX.out; have h3 := BL.out.size; omega⟩); (case aF => exact fun _ _ => trivial); (case aO => exact Kd.R_below HO.out BM.out); (case aB => exact below_step HB.out BM.out); (case aS => exact Nat.le_trans HB.out.size BM.out.size); (case aL => have := HL.out; have := HX.out; simp only [List.length_take]; omega); intro v1 w11 ho hb hg hat; rw [T.out] at ho; have HO2 := Aside0.mk ho; have HB2 := Aside0.mk hb; clear ho hb hg hat))
        go_roundg k1
        case measure => have := HK.out; omega
        case rel => exact ⟨wrap64 (x9 + 1), rfl, ⟨W1.out.1⟩, ⟨W1.out.2⟩, ⟨by have := HK.out; omega⟩, HO2, HB2⟩
      · have c2b0 : decide (x9 < (l0.length : Int)) = false := decide_eq_false c2
        have ex : l0.take x9.toNat = l0 := List.take_of_length_le (by have := HX.out; omega)
        rw [ex] at HO
        clear c2
        go_wp2
        go_ret
        exact ⟨_, rfl, HO.out, HB.out⟩

theorem at_ver {w : World} {A : Option Addr} {n : Nat} {xs : List S27} (h : Kd.C kV w A n xs) (i : Int) (h0 : 0 ≤ i) (h1 : i < n) : ∃ ad g, A = some ad ∧ w.cell? (ad.add i.toNat) = some (.pointer (some ⟨g, 0, none⟩)) ∧ VerAt w g (rd_T27 xs i) := by
  obtain ⟨ad, c, e, _, hK, hc0⟩ := Kd.C_get h z27 i h0 h1
  have hc : ∀ j u, c[j]? = some u → w.cell? (ad.add (i.toNat * 1 + j)) = some u := hc0
  obtain ⟨g, rfl, hv⟩ := hK
  exact ⟨ad, g, e, by have hq := hc 0 _ rfl; rwa [Nat.mul_one, Nat.add_zero] at hq, hv⟩

set_option maxRecDepth 100000 in
set_option maxHeartbeats 4000000 in
theorem lessAt_calls (ad : Addr) (n c : Nat) (ix jx : Int) (hi0 : 0 ≤ ix) (hi1 : ix < n) (hj0 : 0 ≤ jx) (hj1 : jx < n) (g1 g2 : Nat) (r : Bool) (w : World) (e1 : w.cell? (ad.add ix.toNat) = some (.pointer (some ⟨g1, 0, none⟩))) (e2 : w.cell? (ad.add jx.toNat) = some (.pointer (some ⟨g2, 0, none⟩)))
    (F : ∀ W, Below w.heap.size w W → Calls Tryd.prog 92 #[.pointer (some ⟨g1, 0, none⟩), .pointer (some ⟨g2, 0, none⟩)] W fun e w' => e = .returned (.bool r) ∧ Below W.heap.size W w') :
    Calls Tryd.prog 94 #[.slice (some ad) n c, .int .i64 ix, .int .i64 jx] w fun e w' => e = .returned (.bool r) ∧ Below w.heap.size w w' := by
  have FH := Lib.hid F
  clear F
  go_enter Tryd.func94, Tryd.ntmps94
  go_wp2_with fail
  refine region_row mixed (by kernel_rfl) (fun i _ v => match i with
      | 0 => v = .slice (some ad) n c
      | 1 => v = .int .i64 ix
      | 2 => v = .pointer (some (ad.add ix.toNat))
      | 3 => v = .pointer (some ⟨g1, 0, none⟩)
      | 4 => v = .slice (some ad) n c
      | 5 => v = .int .i64 jx
      | 6 => v = .pointer (some (ad.add jx.toNat))
      | 7 => v = .pointer (some ⟨g2, 0, none⟩)
      | 8 => v = .bool r
      | 9 => v = .bool r
      | _ => True) Gr (Gr.refl _) Gr.trans ?_ ?_ ?_
  · exact fun h _ => h
  · refine ⟨?_, ?_, ?_, ?_, ?_, ?_, ?_, ?_, ?_, ?_, trivial⟩
    · intro x wx hR hd hs
      have e0 := ev_of (hs 0 (by kernel_rfl) : x.eval (.tmp 0) = .slice (some ad) n c)
      clear hd hs
      refine wpOp_plain rfl rfl ?_
      go_simp
      exact ⟨_, rfl, rfl, Gr.refl _⟩
    · intro x wx hR hd hs
      have e1 := ev_of (hs 1 (by kernel_rfl) : x.eval (.tmp 1) = .int .i64 ix)
      clear hd hs
      refine wpOp_plain rfl rfl ?_
      go_simp
      exact ⟨_, rfl, rfl, Gr.refl _⟩
    · intro x wx hR hd hs
      have e7 := ev_of (hd 0 _ 7 rfl rfl (by kernel_rfl) : x.eval (.tmp 7) = .slice (some ad) n c)
      have e8 := ev_of (hd 1 _ 8 rfl rfl (by kernel_rfl) : x.eval (.tmp 8) = .int .i64 ix)
      clear hd hs
      refine wpOp_plain rfl rfl ?_
      go_simp
      exact ⟨_, rfl, rfl, Gr.refl _⟩
    · intro x wx hR hd hs
      have e9 := ev_of (hd 2 _ 9 rfl rfl (by kernel_rfl) : x.eval (.tmp 9) = .pointer (some (ad.add ix.toNat)))
      have f1 := (hR.cell (World.block_lt_of_cell? w _ e1)).trans e1
      clear hd hs
      refine wpOp_plain rfl rfl ?_
      go_simp
      exact ⟨_, rfl, rfl, Gr.refl _⟩
    · intro x wx hR hd hs
      have e0 := ev_of (hs 0 (by kernel_rfl) : x.eval (.tmp 0) = .slice (some ad) n c)
      clear hd hs
      refine wpOp_plain rfl rfl ?_
      go_simp
      exact ⟨_, rfl, rfl, Gr.refl _⟩
    · intro x wx hR hd hs
      have e2 := ev_of (hs 2 (by kernel_rfl) : x.eval (.tmp 2) = .int .i64 jx)
      clear hd hs
      refine wpOp_plain rfl rfl ?_
      go_simp
      exact ⟨_, rfl, rfl, Gr.refl _⟩
    · intro x wx hR hd hs
      have e11 := ev_of (hd 4 _ 11 rfl rfl (by kernel_rfl) : x.eval (.tmp 11) = .slice (some ad) n c)
      have e12 := ev_of (hd 5 _ 12 rfl rfl (by kernel_rfl) : x.eval (.tmp 12) = .int .i64 jx)
      clear hd hs
      refine wpOp_plain rfl rfl ?_
      go_simp
      exact ⟨_, rfl, rfl, Gr.refl _⟩
    · intro x wx hR hd hs
      have e13 := ev_of (hd 6 _ 13 rfl rfl (by kernel_rfl) : x.eval (.tmp 13) = .pointer (some (ad.add jx.toNat)))
      have f2 := (hR.cell (World.block_lt_of_cell? w _ e2)).trans e2
      clear hd hs
      refine wpOp_plain rfl rfl ?_
      go_simp
      exact ⟨_, rfl, rfl, Gr.refl _⟩
    · intro x wx hR hd hs
      have e10 := ev_of (hd 3 _ 10 rfl rfl (by kernel_rfl) : x.eval (.tmp 10) = .pointer (some ⟨g1, 0, none⟩))
      have e14 := ev_of (hd 7 _ 14 rfl rfl (by kernel_rfl) : x.eval (.tmp 14) = .pointer (some ⟨g2, 0, none⟩))
      clear hd hs
      refine wpOp_plain rfl rfl ?_
      go_simp
      refine (FH.out _ (drew_chain hR)).mono ?_
      rintro e w1 ⟨rfl, hb⟩
      exact ⟨_, rfl, rfl, hb⟩
    · intro x wx hR hd hs
      have e15 := ev_of (hd 8 _ 15 rfl rfl (by kernel_rfl) : x.eval (.tmp 15) = .bool r)
      clear hd hs
      refine wpOp_plain rfl rfl ?_
      go_simp
      exact ⟨_, rfl, rfl, Gr.refl _⟩
  · intro vs wq hl hR hv
    obtain ⟨v0, v1, v2, v3, v4, v5, v6, v7, v8, v9, rfl⟩ := list_10 hl
    obtain rfl : .slice (some ad) n c = v0 := (hv 0 v0 rfl).symm
    obtain rfl : .int .i64 ix = v1 := (hv 1 v1 rfl).symm
    obtain rfl : .pointer (some (ad.add ix.toNat)) = v2 := (hv 2 v2 rfl).symm
    obtain rfl : .pointer (some ⟨g1, 0, none⟩) = v3 := (hv 3 v3 rfl).symm
    obtain rfl : .slice (some ad) n c = v4 := (hv 4 v4 rfl).symm
    obtain rfl : .int .i64 jx = v5 := (hv 5 v5 rfl).symm
    obtain rfl : .pointer (some (ad.add jx.toNat)) = v6 := (hv 6 v6 rfl).symm
    obtain rfl : .pointer (some ⟨g2, 0, none⟩) = v7 := (hv 7 v7 rfl).symm
    obtain rfl : .bool r = v8 := (hv 8 v8 rfl).symm
    obtain rfl : .bool r = v9 := (hv 9 v9 rfl).symm
    clear hv hl
    simp only [List.map_cons, List.map_nil, putAll, Act.put, List.setIfInBounds_toArray, List.set_cons_zero, List.set_cons_succ]
    go_wp2
    go_ret
    exact ⟨rfl, drew_chain hR⟩

def vsLess (x y : S27) : Bool := decide (verCmp x.f0 x.f1 x.f2 x.f3 y.f0 y.f1 y.f2 y.f3 < 0)
def impl_VersionsLess.f (l : List S27) (ix jx : Int) : Option Bool :=
  if ((0 ≤ ix ∧ ix < l.length) ∧ (0 ≤ jx ∧ jx < l.length)) ∧ l.length ≤ 8796093022207 ∧ (rd_T27 l ix).f3.size ≤ 2147483647 ∧ (rd_T27 l jx).f3.size ≤ 2147483647 then some (vsLess (rd_T27 l ix) (rd_T27 l jx)) else none

set_option maxRecDepth 100000 in
set_option maxHeartbeats 4000000 in
theorem impl_VersionsLess.calls (A0 : Option Addr) (c0 : Nat) (l0 : List S27) (ix jx : Int) (r : Bool) (w : World) (hr0 : Kd.C k27 w A0 l0.length l0) (hc0 : l0.length ≤ c0) (hE : GE w) (h : impl_VersionsLess.f l0 ix jx = some r) :
    Calls Tryd.prog 40 #[.slice A0 l0.length c0, .int .i64 ix, .int .i64 jx] w fun e w' => e = .returned (.bool r) ∧ Below w.heap.size w w' := by
  unfold impl_VersionsLess.f at h
  split at h
  · rename_i hh
    obtain ⟨⟨⟨i0, i1⟩, j0, j1⟩, hl, s1, s2⟩ := hh
    have hr := Option.some.inj h
    clear h
    have P := Lib.hid (ptrs_calls A0 c0 l0 w hr0 hc0 hl)
    have G : ∀ (W : World) (A : Option Addr) (c : Nat), Below w.heap.size w W → Kd.C kV W A l0.length l0 → Calls Tryd.prog 94 #[.slice A l0.length c, .int .i64 ix, .int .i64 jx] W fun e w' => e = .returned (.bool r) ∧ Below W.heap.size W w' := by
      intro W A c hb hC
      obtain ⟨ad, g1, rfl, e1, v1⟩ := at_ver hC ix i0 i1
      obtain ⟨ad', g2, e', e2, v2⟩ := at_ver hC jx j0 j1
      cases e'
      rw [← hr]
      exact lessAt_calls ad l0.length c ix jx i0 i1 j0 j1 g1 g2 _ W e1 e2 (fun W' hb' => lessthan_calls g1 g2 _ _ _ _ _ _ _ _ _ _ _ _ s1 s2 W' (hE.below (chain hb hb')) (Ver.below v1 hb') (Ver.below v2 hb'))
    have HG := Lib.hid G
    clear G hr0 hE hr
    have d1 : decide (ix < 0) = false := by simp; omega
    have d2 : decide (jx < 0) = false := by simp; omega
    have d3 : decide (ix ≥ (l0.length : Int)) = false := by simp; omega
    have d4 : decide (jx ≥ (l0.length : Int)) = false := by simp; omega
    have d5 : decide ((l0.length : Int) ≤ ix) = false := by simp; omega
    have d6 : decide ((l0.length : Int) ≤ jx) = false := by simp; omega
    clear i0 i1 j0 j1 s1 s2 hl
    go_enter Tryd.func40, Tryd.ntmps40
    go_wp2_with (first
      | (go_at_call 93; refine P.out.mono ?_; rintro e w1 ⟨v, rfl, hR1, hb1⟩; obtain ⟨Av, cv, rfl, hcv, hC⟩ := Kd.R_reads hR1)
      | (go_at_call 94; refine (HG.out _ _ _ hb1 hC).mono ?_; rintro e w2 ⟨rfl, hb2⟩))
    go_ret
    exact ⟨rfl, chain hb1 hb2⟩
  · cases h
end Go.Proofs.YtgenbmhmcnaiiaaDoor.H
