/- Texts of this claim, joined. -/
import Derived.Test.YtgenbmhmcnaiiaaDoorPGx0KE
import Derived.Test.YtgenbmhmcnaiiaaDoorBasicKE
import Derived.Test.YtgenbmhmcnaiiaaDoorTermsAKE
import Derived.Test.YtgenbmhmcnaiiaaDoorT3AllKE
/- impl.terms: lists of lists of terms turned to the program's own form. -/
namespace Go.Proofs.YtgenbmhmcnaiiaaDoor.H
open Go.RowKit Go.Proofs.YtgenbmhmcnaiiaaDoor.PG Go.Proofs.YtgenbmhmcnaiiaaDoorW.PrintWords Go.Proofs.YtgenbmhmcnaiiaaDoorW.PrintLast Go.Proofs.YtgenbmhmcnaiiaaDoorW.PrintMore
set_option linter.unusedVariables false
set_option linter.unusedSimpArgs false

/-- A term in the program's form: five cells, the version behind a pointer of its own. -/
def tVer (w : World) (g : Nat) (x : S54) : Prop := Ver w g x.f2 x.f3 x.f4 x.f5 ⟨#[]⟩ ⟨#[]⟩
def ctCells (x : S54) (g : Nat) : List Value := [.string (opText (opOf x.f0)), .pointer (some ⟨g, 0, none⟩), .bool (decide (0 ≤ x.f1) && decide (x.f1 < 3)), .bool (x.f1 == 1), .bool (x.f1 == 2)]
def kC : Kd S54 where
  sz := 5
  E := [88]
  K w x cs := ∃ g, cs = ctCells x g ∧ tVer w g x
  M w base ok x cs := ∃ g, cs = ctCells x g ∧ ok g ∧ base ≤ g ∧ tVer w g x
  K_len := by rintro w x cs ⟨g, rfl, _⟩; rfl
  K_one := by
    rintro w x cs ⟨g, rfl, _⟩ u hu
    simp only [ctCells, List.mem_cons, List.not_mem_nil, or_false] at hu
    rcases hu with rfl | rfl | rfl | rfl | rfl <;> rfl
  K_below := by rintro w w1 x cs hb ⟨g, rfl, h⟩; exact ⟨g, rfl, Ver.below h hb⟩
  K_of_M := by rintro w base ok x cs ⟨g, rfl, _, _, h⟩; exact ⟨g, rfl, h⟩
  M_mono := by rintro w base ok ok' x cs hk ⟨g, rfl, h1, h2, h3⟩; exact ⟨g, rfl, hk g h1, h2, h3⟩
  M_bound := by
    rintro w base ok x cs ⟨g, rfl, h1, h2, h3⟩
    exact ⟨g, rfl, ⟨h1, h2, blk_lt h3, 88, by simp, _, h3⟩, h2, h3⟩
  M_move := by
    rintro w w1 base ok x cs hm ⟨g, rfl, h1, h2, h3⟩
    exact ⟨g, rfl, h1, h2, (hm g h1).trans h3⟩
  M_lower := by rintro w base base' ok x cs hb ⟨g, rfl, h1, h2, h3⟩; exact ⟨g, rfl, h1, by omega, h3⟩

theorem info108 : (Tryd.prog.info? 108).map (fun i => (i.zero, i.size, i.bytes)) = some (some (.agg #[.string ⟨#[]⟩, .pointer none, .bool false, .bool false, .bool false]), 5, 32) := by kernel_rfl
theorem info140 : (Tryd.prog.info? 140).map (fun i => (i.zero, i.size, i.bytes)) = some (some (.slice none 0 0), 1, 24) := by kernel_rfl
theorem take_nextD {α : Type} {l : List α} {x : Int} {d : α} (hl : l.length ≤ 2147483647) (h0 : 0 ≤ x) (h1 : x < (l.length : Int)) : l.take x.toNat ++ [l.getD x.toNat d] = l.take (wrap64 (x + 1)).toNat := by
  have hx : x.toNat < l.length := by omega
  have e : (wrap64 (x + 1)).toNat = x.toNat + 1 := by unfold wrap64; omega
  rw [e, List.take_add_one, List.getElem?_eq_getElem hx]
  simp [List.getD_eq_getElem?_getD, List.getElem?_eq_getElem hx]

set_option maxRecDepth 100000 in
set_option maxHeartbeats 4000000 in
theorem terms_calls (A0 : Option Addr) (c0 : Nat) (l0 : List (List S54)) (w : World) (hr0 : Kd.C (Kd.slice 54 k54) w A0 l0.length l0) (hc0 : l0.length ≤ c0) (hl : l0.length ≤ 2147483647) (hll : ∀ x ∈ l0, x.length ≤ 2147483647) :
    Calls Tryd.prog 113 #[.slice A0 l0.length c0] w fun e w' => ∃ v, e = .returned v ∧ Kd.R (Kd.slice 108 kC) 140 w' w.heap.size (fun _ => True) v l0 ∧ Below w.heap.size w w' := by
  have hu54 := Tryd.underlying54
  have HR0 := Aside0.mk hr0
  have HC0 := Aside0.mk hc0
  have HLL := Aside0.mk hll
  clear hr0 hc0 hll
  have HB := Aside0.mk (Below.refl w.heap.size w)
  obtain ⟨k, hk⟩ : ∃ k, k = l0.length + 1 := ⟨_, rfl⟩
  go_enter Tryd.func113, Tryd.ntmps113
  go_wp2
  go_loopg [3, 11] k (fun kq v3 v11 w' => ∃ (x11 : Int), v11 = .int .i64 x11 ∧ Aside0 (x11.toNat + kq = l0.length + 1) ∧ Aside0 (0 ≤ x11 ∧ x11 ≤ l0.length) ∧ Aside0 (kq ≤ k) ∧ Aside0 (Kd.R (Kd.slice 108 kC) 140 w' w.heap.size (fun _ => True) v3 (l0.take x11.toNat)) ∧ Aside0 (Below w.heap.size w w'))
  case atStart => exact ⟨0, rfl, ⟨by simp [hk]⟩, ⟨by omega⟩, ⟨Nat.le_refl _⟩, ⟨Kd.R_nil _ _ _ _ _⟩, HB⟩
  case round =>
    obtain ⟨x11, rfl, HA, HX, HK, HO, HB⟩ := hrel
    cases gk with
    | zero => exact absurd HA.out (by have := HX.out; omega)
    | succ k1 =>
      have HL := Aside0.mk hl
      clear hl hk
      by_cases c2 : x11 < (l0.length : Int)
      · have c2b0 : decide (x11 < (l0.length : Int)) = true := decide_eq_true c2
        have p170 : 0 ≤ (x11 : Int) := HX.out.1
        have q170 : x11 < (l0.length : Int) := c2
        have T : Aside0 (l0.take x11.toNat ++ [rd_L9 l0 x11] = l0.take (wrap64 (x11 + 1)).toNat) := Aside0.mk (take_nextD HL.out p170 q170)
        have W1 : Aside0 ((wrap64 (x11 + 1)).toNat + k1 = l0.length + 1 ∧ 0 ≤ wrap64 (x11 + 1) ∧ wrap64 (x11 + 1) ≤ l0.length) := ⟨by have := HL.out; have := HA.out; unfold wrap64; omega⟩
        obtain ⟨ad170, A1, c1, e170, hx170, hc1, hr1⟩ := at_L9 HR0.out x11 p170 q170
        have hlen1 : (rd_L9 l0 x11).length ≤ 2147483647 := by
          have hm : rd_L9 l0 x11 ∈ l0 := by
            have hx : x11.toNat < l0.length := by omega
            unfold rd_L9
            rw [List.getD_eq_getElem?_getD, List.getElem?_eq_getElem hx]
            exact List.getElem_mem hx
          exact HLL.out _ hm
        cases e170
        replace hx170 := (HB.out.cell (World.block_lt_of_cell? w _ hx170)).trans hx170
        have HR1 := Aside0.mk (Kd.C_below hr1 HB.out)
        clear hr1
        replace p170 := eq_true p170
        replace q170 := eq_true q170
        clear c2
        generalize rd_L9 l0 x11 = li at *
        rename World => wo
        go_wp2
        obtain ⟨kk, hkk⟩ : ∃ kk, kk = li.length + 1 := ⟨_, rfl⟩
        go_loopg [6, 17] kk (fun kq v6 v17 w' => ∃ (x17 : Int), v17 = .int .i64 x17 ∧ Aside0 (x17.toNat + kq = li.length + 1) ∧ Aside0 (0 ≤ x17 ∧ x17 ≤ li.length) ∧ Aside0 (kq ≤ kk) ∧ Aside0 (Kd.R kC 108 w' wo.heap.size (fun _ => True) v6 (li.take x17.toNat)) ∧ Aside0 (Below wo.heap.size wo w'))
        case atStart => exact ⟨0, rfl, ⟨by simp [hkk]⟩, ⟨by omega⟩, ⟨Nat.le_refl _⟩, ⟨Kd.R_nil _ _ _ _ _⟩, ⟨Below.refl _ _⟩⟩
        case round =>
          obtain ⟨x17, rfl, HA1, HX1, HK1, HO1, HB1⟩ := hrel
          cases gk with
          | zero => exact absurd HA1.out (by have := HX1.out; omega)
          | succ k2 =>
            have HL1 := Aside0.mk hlen1
            clear hlen1 hkk
            by_cases d2 : x17 < (li.length : Int)
            · have d2b0 : decide (x17 < (li.length : Int)) = true := decide_eq_true d2
              have p180 : 0 ≤ (x17 : Int) := HX1.out.1
              have q180 : x17 < (li.length : Int) := d2
              have T1 : Aside0 (li.take x17.toNat ++ [rd_T54 li x17] = li.take (wrap64 (x17 + 1)).toNat) := Aside0.mk (take_nextD HL1.out p180 q180)
              have W2 : Aside0 ((wrap64 (x17 + 1)).toNat + k2 = li.length + 1 ∧ 0 ≤ wrap64 (x17 + 1) ∧ wrap64 (x17 + 1) ≤ li.length) := ⟨by have := HL1.out; have := HA1.out; unfold wrap64; omega⟩
              obtain ⟨ad180, e180, hx180_0, hx180_1, hx180_2, hx180_3, hx180_4, hx180_5⟩ := at_T54 HR1.out x17 p180 q180
              cases e180
              replace hx180_0 := (HB1.out.cell (World.block_lt_of_cell? wo _ hx180_0)).trans hx180_0
              replace hx180_1 := (HB1.out.cell (World.block_lt_of_cell? wo _ hx180_1)).trans hx180_1
              replace hx180_2 := (HB1.out.cell (World.block_lt_of_cell? wo _ hx180_2)).trans hx180_2
              replace hx180_3 := (HB1.out.cell (World.block_lt_of_cell? wo _ hx180_3)).trans hx180_3
              replace hx180_4 := (HB1.out.cell (World.block_lt_of_cell? wo _ hx180_4)).trans hx180_4
              replace hx180_5 := (HB1.out.cell (World.block_lt_of_cell? wo _ hx180_5)).trans hx180_5
              replace p180 := eq_true p180
              replace q180 := eq_true q180
              clear d2 hx170
              generalize hvx : rd_T54 li x17 = vx at *
              rename World => wi
              go_wp2_with (first
                | ((with_reducible refine gate_dst (N := 8) rfl ?_); refine box_event ?hg (N := 8) ?hd (cs := #[.int .i64 0, .int .i64 0, .int .u64 0, .int .u64 0, .int .u64 0, .string (⟨#[]⟩ : ByteArray)]) (t := 54) ?hr ?_; (case hd => rfl); (case hg => rfl); (case hr => first | (go_simp; done) | (go_simp; rfl) | (go_simp; simp [IntKind.wrap_u8]; done)); intro gb hg w9 hbox hb; have GG := Aside0.mk (show wi.heap.size ≤ gb by rw [hg]; exact Nat.le_refl _); have BK := Aside0.mk hbox; have BL := Aside0.mk hb; clear hb hbox hg; have hcz0 : w9.cell? ⟨gb, 0, none⟩ = some (.int .i64 0) := (blk_cell BK.out 0).trans rfl; have hcz1 : w9.cell? ⟨gb, 1, none⟩ = some (.int .i64 0) := (blk_cell BK.out 1).trans rfl; have hcz2 : w9.cell? ⟨gb, 2, none⟩ = some (.int .u64 0) := (blk_cell BK.out 2).trans rfl; have hcz3 : w9.cell? ⟨gb, 3, none⟩ = some (.int .u64 0) := (blk_cell BK.out 3).trans rfl; have hcz4 : w9.cell? ⟨gb, 4, none⟩ = some (.int .u64 0) := (blk_cell BK.out 4).trans rfl; have hcz5 : w9.cell? ⟨gb, 5, none⟩ = some (.string (⟨#[]⟩ : ByteArray)) := (blk_cell BK.out 5).trans rfl; have hfz0 := blk_frozen BK.out 0; have hfz1 := blk_frozen BK.out 1; have hfz2 := blk_frozen BK.out 2; have hfz3 := blk_frozen BK.out 3; have hfz4 := blk_frozen BK.out 4; have hfz5 := blk_frozen BK.out 5)
                | (go_at_call 102; refine (term_calls _ _ _ _ _ _ _).mono ?_; rintro e w10 ⟨⟨v, rfl, g, rfl, hv, hgw⟩, hb2⟩; have BM : Aside0 (Below wi.heap.size wi w10) := Aside0.mk (below_step (below_set (below_set (below_set (below_set (below_set (below_set BL.out GG.out) GG.out) GG.out) GG.out) GG.out) GG.out) hb2); have GX : Aside0 (w9.heap.size ≤ g) := ⟨by simpa using hgw⟩; have HV := Aside0.mk hv; clear hv hgw hb2)
                | ((with_reducible refine gate_builtin (b := .append) (xs := #[.tmp 21, .tmp 24]) rfl ?_); at_builtin; refine Kd.R_append kC (w0 := wo) wo.heap.size rfl (.tmp 21) (.tmp 24) 140 108 (.agg #[.string ⟨#[]⟩, .pointer none, .bool false, .bool false, .bool false]) 32 rfl Tryd.underlying140 info108 rfl (by decide) (by omega) u6 (li.take x17.toNat) vx (ctCells vx g) (fun _ => True) (fun k => k = g) rfl rfl ?aP ?aQ ?aF ?aO ?aB ?aS ?aL ?_; (case aP => exact ⟨g, rfl, rfl, Nat.le_trans HB1.out.size (Nat.le_trans BL.out.size GX.out), HV.out⟩); (case aQ => intro k hk; subst hk; exact ⟨trivial, fun e => by have h1 := Kd.R_lt HO1.out _ e.symm; have h2 := GX.out; have h3 := BL.out.size; omega⟩); (case aF => exact fun _ _ => trivial); (case aO => exact Kd.R_below HO1.out BM.out); (case aB => exact below_step HB1.out BM.out); (case aS => exact Nat.le_trans HB1.out.size BM.out.size); (case aL => have := HL1.out; have := HX1.out; simp only [List.length_take]; omega); intro v1 w11 ho hb hg hat; rw [T1.out] at ho; have HO2 := Aside0.mk ho; have HB2 := Aside0.mk hb; clear ho hb hg hat))
              go_roundg k2
              case measure => have := HK1.out; omega
              case rel => exact ⟨wrap64 (x17 + 1), rfl, ⟨W2.out.1⟩, ⟨W2.out.2⟩, ⟨by have := HK1.out; omega⟩, HO2, HB2⟩
            · have d2b0 : decide (x17 < (li.length : Int)) = false := decide_eq_false d2
              have ex : li.take x17.toNat = li := List.take_of_length_le (by have := HX1.out; omega)
              rw [ex] at HO1
              clear d2
              rename World => wi
              obtain ⟨A6, c6, e6, _, _⟩ := Kd.R_reads HO1.out
              subst e6
              go_wp2_with ((with_reducible refine gate_builtin (b := .append) (xs := #[.tmp 27, .tmp 29]) rfl ?_); at_builtin; refine Kd.R_append (Kd.slice 108 kC) (w0 := w) w.heap.size rfl (.tmp 27) (.tmp 29) 119 140 (.slice none 0 0) 24 rfl Tryd.underlying119 info140 rfl (by decide) (by omega) u3 (l0.take x11.toNat) li [.slice A6 li.length c6] (fun _ => True) (fun k => wo.heap.size ≤ k) rfl rfl ?aP ?aQ ?aF ?aO ?aB ?aS ?aL ?_; (case aP => exact Kd.M_row (Kd.R_lower (Kd.R_mono (Kd.R_bound HO1.out) (fun k hk => hk.2.1)) HB.out.size)); (case aQ => intro k hk; exact ⟨trivial, fun e => by have h1 := Kd.R_lt HO.out _ e.symm; omega⟩); (case aF => exact fun _ _ => trivial); (case aO => exact Kd.R_below HO.out HB1.out); (case aB => exact below_step HB.out HB1.out); (case aS => exact Nat.le_trans HB.out.size HB1.out.size); (case aL => have := HL.out; have := HX.out; simp only [List.length_take]; omega); intro v1 w11 ho hb hg hat; rw [T.out] at ho; have HO2 := Aside0.mk ho; have HB2 := Aside0.mk hb; clear ho hb hg hat)
              go_roundg k1
              case measure => have := HK.out; omega
              case rel => exact ⟨wrap64 (x11 + 1), rfl, ⟨W1.out.1⟩, ⟨W1.out.2⟩, ⟨by have := HK.out; omega⟩, HO2, HB2⟩
      · have c2b0 : decide (x11 < (l0.length : Int)) = false := decide_eq_false c2
        have ex : l0.take x11.toNat = l0 := List.take_of_length_le (by have := HX.out; omega)
        rw [ex] at HO
        clear c2
        go_wp2
        go_ret
        exact ⟨_, rfl, HO.out, HB.out⟩
end Go.Proofs.YtgenbmhmcnaiiaaDoor.H

/- ZZConstraints: the lists of lists of terms as the program's constraints. -/
namespace Go.Proofs.YtgenbmhmcnaiiaaDoor.H
open Go.RowKit Go.Proofs.YtgenbmhmcnaiiaaDoor.PG Go.Proofs.YtgenbmhmcnaiiaaDoorW.PrintWords Go.Proofs.YtgenbmhmcnaiiaaDoorW.PrintLast Go.Proofs.YtgenbmhmcnaiiaaDoorW.PrintMore
set_option linter.unusedVariables false
set_option linter.unusedSimpArgs false

/-- A constraint behind a pointer; its version lies as it did in the world w0. -/
def conAt (w : World) (k g : Nat) (x : S54) : Prop := Con w k (.pointer (some ⟨g, 0, none⟩)) (opText (opOf x.f0)) (decide (0 ≤ x.f1) && decide (x.f1 < 3)) (x.f1 == 1) (x.f1 == 2)
def kP (w0 : World) : Kd S54 where
  sz := 1
  E := [154]
  K w x cs := ∃ k g, cs = [.pointer (some ⟨k, 0, none⟩)] ∧ conAt w k g x ∧ tVer w0 g x
  M w base ok x cs := ∃ k g, cs = [.pointer (some ⟨k, 0, none⟩)] ∧ ok k ∧ base ≤ k ∧ conAt w k g x ∧ tVer w0 g x
  K_len := by rintro w x cs ⟨k, g, rfl, _⟩; rfl
  K_one := by
    rintro w x cs ⟨k, g, rfl, _⟩ u hu
    simp only [List.mem_cons, List.not_mem_nil, or_false] at hu
    subst hu
    rfl
  K_below := by rintro w w1 x cs hb ⟨k, g, rfl, h, h'⟩; exact ⟨k, g, rfl, Con.below h hb, h'⟩
  K_of_M := by rintro w base ok x cs ⟨k, g, rfl, _, _, h, h'⟩; exact ⟨k, g, rfl, h, h'⟩
  M_mono := by rintro w base ok ok' x cs hk ⟨k, g, rfl, h1, h2, h3⟩; exact ⟨k, g, rfl, hk k h1, h2, h3⟩
  M_bound := by
    rintro w base ok x cs ⟨k, g, rfl, h1, h2, h3, h4⟩
    exact ⟨k, g, rfl, ⟨h1, h2, blk_lt h3, 154, by simp, _, h3⟩, h2, h3, h4⟩
  M_move := by
    rintro w w1 base ok x cs hm ⟨k, g, rfl, h1, h2, h3, h4⟩
    exact ⟨k, g, rfl, h1, h2, (hm k h1).trans h3, h4⟩
  M_lower := by rintro w base base' ok x cs hb ⟨k, g, rfl, h1, h2, h3⟩; exact ⟨k, g, rfl, h1, by omega, h3⟩

theorem info141 : (Tryd.prog.info? 141).map (fun i => (i.zero, i.size, i.bytes)) = some (some (.slice none 0 0), 1, 24) := by kernel_rfl
theorem info135 : (Tryd.prog.info? 135).map (fun i => (i.zero, i.size, i.bytes)) = some (some (.pointer none), 1, 8) := by kernel_rfl
theorem info4 : (Tryd.prog.info? 4).map (fun i => (i.zero, i.size, i.bytes)) = some (some (.bool false), 1, 1) := by kernel_rfl
theorem R_apart {α β : Type} {d : Kd α} {d' : Kd β} {e e' : Nat} {w : World} {base base' : Nat} {v v' : Value} {xs : List α} {ys : List β} (h : d.R e w base (fun _ => True) v xs) (h' : d'.R e' w base' (fun _ => True) v' ys) (ht : ∀ q, q ∈ e :: d.E → q ≠ e') :
    d.R e w base (fun k => some k ≠ v'.ownBlock) v xs :=
  Kd.R_mono (Kd.R_bound h) (fun k hk he => by
    obtain ⟨_, _, _, q, hq, cells, hc⟩ := hk
    obtain ⟨inner, hown, _⟩ := h'.2
    obtain ⟨cells', hc'⟩ := own_typed hown k he.symm
    rw [hc] at hc'
    simp at hc'
    exact ht q hq hc'.2)
theorem own_ne {α : Type} {d : Kd α} {e : Nat} {w : World} {base : Nat} {v : Value} {xs : List α} {g t : Nat} {cs : Array Value} (h : d.R e w base (fun _ => True) v xs) (hb : w.heap[g]? = some (.cells cs t (0, 0))) (ht : e ≠ t) : some g ≠ v.ownBlock := by
  intro he
  obtain ⟨inner, hown, _⟩ := h.2
  obtain ⟨cells', hc'⟩ := own_typed hown g he.symm
  rw [hb] at hc'
  simp at hc'
  exact ht hc'.2.symm
theorem at_ct {w : World} {A : Option Addr} {n : Nat} {xs : List S54} (h : Kd.C kC w A n xs) (i : Int) (h0 : 0 ≤ i) (h1 : i < n) : ∃ ad g, A = some ad ∧ tVer w g (rd_T54 xs i) ∧ w.cell? (ad.add (i.toNat * 5)) = some (.string (opText (opOf (rd_T54 xs i).f0))) ∧ w.cell? ⟨(ad.add (i.toNat * 5)).block, (ad.add (i.toNat * 5)).off + 1, none⟩ = some (.pointer (some ⟨g, 0, none⟩)) ∧ w.cell? ⟨(ad.add (i.toNat * 5)).block, (ad.add (i.toNat * 5)).off + 2, none⟩ = some (.bool (decide (0 ≤ (rd_T54 xs i).f1) && decide ((rd_T54 xs i).f1 < 3))) ∧ w.cell? ⟨(ad.add (i.toNat * 5)).block, (ad.add (i.toNat * 5)).off + 3, none⟩ = some (.bool ((rd_T54 xs i).f1 == 1)) ∧ w.cell? ⟨(ad.add (i.toNat * 5)).block, (ad.add (i.toNat * 5)).off + 4, none⟩ = some (.bool ((rd_T54 xs i).f1 == 2)) := by
  obtain ⟨ad, c, e, _, hK, hc0⟩ := Kd.C_get h z54 i h0 h1
  have hc : ∀ j u, c[j]? = some u → w.cell? (ad.add (i.toNat * 5 + j)) = some u := hc0
  obtain ⟨g, rfl, hv⟩ := hK
  exact ⟨ad, g, e, hv, hc 0 _ rfl, by rw [← add_field _ _ 1 (by omega)]; exact hc 1 _ rfl, by rw [← add_field _ _ 2 (by omega)]; exact hc 2 _ rfl, by rw [← add_field _ _ 3 (by omega)]; exact hc 3 _ rfl, by rw [← add_field _ _ 4 (by omega)]; exact hc 4 _ rfl⟩
def rd_LC (xs : List (List S54)) (i : Int) : List S54 := xs.getD i.toNat ([] : List S54)
theorem at_LC {w : World} {A : Option Addr} {n : Nat} {xs : List (List S54)} (h : Kd.C (Kd.slice 108 kC) w A n xs) (i : Int) (h0 : 0 ≤ i) (h1 : i < n) : ∃ ad A0 c0, A = some ad ∧ w.cell? (ad.add i.toNat) = some (.slice A0 (rd_LC xs i).length c0) ∧ (rd_LC xs i).length ≤ c0 ∧ kC.C w A0 (rd_LC xs i).length (rd_LC xs i) := by
  obtain ⟨ad, c, e, _, hK, hc0⟩ := Kd.C_get h ([] : List S54) i h0 h1
  have hc : ∀ j u, c[j]? = some u → w.cell? (ad.add (i.toNat * 1 + j)) = some u := hc0
  obtain ⟨A0, c0, rfl, l0, g0⟩ := hK
  exact ⟨ad, A0, c0, e, by have hq := hc 0 _ rfl; rwa [Nat.mul_one, Nat.add_zero] at hq, l0, g0⟩
def hasPre (x : S54) : Bool := x.f5.data.toList != []
theorem R_shape {α : Type} {d : Kd α} {e : Nat} {w : World} {base : Nat} {ok : Nat → Prop} {v : Value} {xs : List α} (h : d.R e w base ok v xs) : ∃ A n c, v = .slice A n c := by
  obtain ⟨A, c, rfl, _, _⟩ := Kd.R_reads h
  exact ⟨_, _, _, rfl⟩
theorem bool_ne (t : Nat) (h : (4 : Nat) ≠ t) : ∀ q, q ∈ 4 :: Kd.bool.E → q ≠ t := by
  intro q hq
  simp [Kd.bool, Kd.scalar] at hq
  subst hq
  exact h
theorem grp_ne (w : World) (t : Nat) (h1 : (141 : Nat) ≠ t) (h2 : (135 : Nat) ≠ t) (h3 : (154 : Nat) ≠ t) : ∀ q, q ∈ 141 :: (Kd.slice 135 (kP w)).E → q ≠ t := by
  intro q hq
  simp [Kd.slice, kP] at hq
  rcases hq with rfl | rfl | rfl
  · exact h1
  · exact h2
  · exact h3

set_option maxRecDepth 100000 in
set_option maxHeartbeats 4000000 in
theorem groups_calls (A0 : Option Addr) (c0 : Nat) (l0 : List (List S54)) (pre : Bool) (w : World) (hr0 : Kd.C (Kd.slice 108 kC) w A0 l0.length l0) (hc0 : l0.length ≤ c0) (hl : l0.length ≤ 2147483647) (hll : ∀ x ∈ l0, x.length ≤ 2147483647) :
    Calls Tryd.prog 112 #[.slice A0 l0.length c0, .bool pre] w fun e w' => (∃ gv fv, e = .returned (.agg #[gv, fv, .bool pre]) ∧ Kd.R (Kd.slice 135 (kP w)) 141 w' w.heap.size (fun _ => True) gv l0 ∧ Kd.R Kd.bool 4 w' w.heap.size (fun _ => True) fv (l0.map (fun l => l.any hasPre))) ∧ Below w.heap.size w w' := by
  have hu117 := Tryd.underlying117
  have hu108 := Tryd.underlying108
  have hu88 := Tryd.underlying88
  have HR0 := Aside0.mk hr0
  have HC0 := Aside0.mk hc0
  have HLL := Aside0.mk hll
  clear hr0 hc0 hll
  obtain ⟨k, hk⟩ : ∃ k, k = l0.length + 1 := ⟨_, rfl⟩
  go_enter Tryd.func112, Tryd.ntmps112
  go_wp2
  go_loopg [16] k (fun kq v16 w' => ∃ (x16 : Int) (gv fv : Value), v16 = .int .i64 x16 ∧ Aside0 (x16.toNat + kq = l0.length + 1) ∧ Aside0 (0 ≤ x16 ∧ x16 ≤ l0.length) ∧ Aside0 (kq ≤ k) ∧ Aside0 (w'.heap[w.heap.size + 1]? = some (.cells #[gv, fv, .bool pre] 117 (0, 0))) ∧ Aside0 (w'.heap[w.heap.size]? = some (.cells #[.slice none 0 0, .slice none 0 0, .bool false] 117 (0, 0))) ∧ Aside0 (Kd.R (Kd.slice 135 (kP w)) 141 w' w.heap.size (fun _ => True) gv (l0.take x16.toNat)) ∧ Aside0 (Kd.R Kd.bool 4 w' w.heap.size (fun _ => True) fv ((l0.take x16.toNat).map (fun l => l.any hasPre))) ∧ Aside0 (Below w.heap.size w w'))
  case atStart =>
    have e1 : (w.alloc (Obj.cells #[Value.slice none 0 0, Value.slice none 0 0, Value.bool false] 117)).heap.size = w.heap.size + 1 := by simp
    have h1 := heap_alloc_new (w.alloc (Obj.cells #[Value.slice none 0 0, Value.slice none 0 0, Value.bool false] 117)) (Obj.cells #[Value.slice none 0 0, Value.slice none 0 0, Value.bool pre] 117)
    rw [e1] at h1
    have h0 := heap_alloc_new w (Obj.cells #[Value.slice none 0 0, Value.slice none 0 0, Value.bool false] 117)
    exact ⟨0, _, _, rfl, ⟨by simp [hk]⟩, ⟨by omega⟩, ⟨Nat.le_refl _⟩, ⟨h1⟩, ⟨(Below.heap_alloc _ _ _ (blk_lt h0)).trans h0⟩, ⟨Kd.R_nil _ _ _ _ _⟩, ⟨Kd.R_nil _ _ _ _ _⟩, ⟨chain (below_new _ _) (below_new _ _)⟩⟩
  case round =>
    obtain ⟨x16, gv, fv, rfl, HA, HX, HK, BS, B4, HO, HF, HB⟩ := hrel
    cases gk with
    | zero => exact absurd HA.out (by have := HX.out; omega)
    | succ k1 =>
      have HL := Aside0.mk hl
      clear hl hk
      by_cases c2 : x16 < (l0.length : Int)
      · have c2b0 : decide (x16 < (l0.length : Int)) = true := decide_eq_true c2
        have p170 : 0 ≤ (x16 : Int) := HX.out.1
        have q170 : x16 < (l0.length : Int) := c2
        have T : Aside0 (l0.take x16.toNat ++ [rd_LC l0 x16] = l0.take (wrap64 (x16 + 1)).toNat) := Aside0.mk (take_nextD HL.out p170 q170)
        have W1 : Aside0 ((wrap64 (x16 + 1)).toNat + k1 = l0.length + 1 ∧ 0 ≤ wrap64 (x16 + 1) ∧ wrap64 (x16 + 1) ≤ l0.length) := ⟨by have := HL.out; have := HA.out; unfold wrap64; omega⟩
        obtain ⟨ad170, A1, c1, e170, hx170, hc1, hr1⟩ := at_LC HR0.out x16 p170 q170
        have hlen1 : (rd_LC l0 x16).length ≤ 2147483647 := by
          have hm : rd_LC l0 x16 ∈ l0 := by
            have hx : x16.toNat < l0.length := by omega
            unfold rd_LC
            rw [List.getD_eq_getElem?_getD, List.getElem?_eq_getElem hx]
            exact List.getElem_mem hx
          exact HLL.out _ hm
        cases e170
        replace hx170 := (HB.out.cell (World.block_lt_of_cell? w _ hx170)).trans hx170
        have HR1 := Aside0.mk hr1
        clear hr1
        replace p170 := eq_true p170
        replace q170 := eq_true q170
        clear c2
        generalize rd_LC l0 x16 = li at *
        rename World => wo
        go_wp2
        obtain ⟨kk, hkk⟩ : ∃ kk, kk = li.length + 1 := ⟨_, rfl⟩
        go_loopg [8, 9, 22] kk (fun kq v8 v9 v22 w' => ∃ (x22 : Int) (b9 : Bool), v22 = .int .i64 x22 ∧ v9 = .bool b9 ∧ Aside0 (b9 = (li.take x22.toNat).any hasPre) ∧ Aside0 (x22.toNat + kq = li.length + 1) ∧ Aside0 (0 ≤ x22 ∧ x22 ≤ li.length) ∧ Aside0 (kq ≤ kk) ∧ Aside0 (Kd.R (kP w) 135 w' wo.heap.size (fun _ => True) v8 (li.take x22.toNat)) ∧ Aside0 (Below wo.heap.size wo w'))
        case atStart => exact ⟨0, false, rfl, rfl, ⟨by simp⟩, ⟨by simp [hkk]⟩, ⟨by omega⟩, ⟨Nat.le_refl _⟩, ⟨Kd.R_nil _ _ _ _ _⟩, ⟨Below.refl _ _⟩⟩
        case round =>
          obtain ⟨x22, b9, rfl, rfl, HQ9, HA1, HX1, HK1, HO1, HB1⟩ := hrel
          cases gk with
          | zero => exact absurd HA1.out (by have := HX1.out; omega)
          | succ k2 =>
            have HL1 := Aside0.mk hlen1
            clear hlen1 hkk
            rename World => wi
            have HBi : Aside0 (Below w.heap.size w wi) := Aside0.mk (below_step HB.out HB1.out)
            by_cases d2 : x22 < (li.length : Int)
            · have d2b0 : decide (x22 < (li.length : Int)) = true := decide_eq_true d2
              have p180 : 0 ≤ (x22 : Int) := HX1.out.1
              have q180 : x22 < (li.length : Int) := d2
              have T1 : Aside0 (li.take x22.toNat ++ [rd_T54 li x22] = li.take (wrap64 (x22 + 1)).toNat) := Aside0.mk (take_nextD HL1.out p180 q180)
              have W2 : Aside0 ((wrap64 (x22 + 1)).toNat + k2 = li.length + 1 ∧ 0 ≤ wrap64 (x22 + 1) ∧ wrap64 (x22 + 1) ≤ li.length) := ⟨by have := HL1.out; have := HA1.out; unfold wrap64; omega⟩
              obtain ⟨ad180, g, e180, htv, hx180_0, hx180_1, hx180_2, hx180_3, hx180_4⟩ := at_ct HR1.out x22 p180 q180
              cases e180
              replace hx180_0 := (HBi.out.cell (World.block_lt_of_cell? w _ hx180_0)).trans hx180_0
              replace hx180_1 := (HBi.out.cell (World.block_lt_of_cell? w _ hx180_1)).trans hx180_1
              replace hx180_2 := (HBi.out.cell (World.block_lt_of_cell? w _ hx180_2)).trans hx180_2
              replace hx180_3 := (HBi.out.cell (World.block_lt_of_cell? w _ hx180_3)).trans hx180_3
              replace hx180_4 := (HBi.out.cell (World.block_lt_of_cell? w _ hx180_4)).trans hx180_4
              have TV := Aside0.mk htv
              clear htv
              replace p180 := eq_true p180
              replace q180 := eq_true q180
              clear d2 hx170
              generalize hvx : rd_T54 li x22 = vx at *
              have Q9 : Aside0 ((b9 || hasPre vx) = (li.take (wrap64 (x22 + 1)).toNat).any hasPre) := ⟨by rw [← T1.out, List.any_append, ← HQ9.out]; simp⟩
              have HP : hasPre vx = (vx.f5.data.toList != []) := rfl
              rcases hxl : vx.f5.data.toList with _ | ⟨y0, yr⟩
              · have ef : vx.f5 = ⟨#[]⟩ := eq_of_data (by rw [hxl])
                have hp0 : hasPre vx = false := by rw [HP, hxl]; rfl
                rw [hp0, Bool.or_false] at Q9
                have TV5 := Aside0.mk ef
                clear hxl HP hp0
                go_wp2_with (first
                | ((with_reducible refine gate_dst (N := 11) rfl ?_); refine box_event ?hg (N := 11) ?hd (cs := #[.string (⟨#[]⟩ : ByteArray), .pointer none, .bool false, .bool false, .bool false]) (t := 108) ?hr ?_; (case hd => rfl); (case hg => rfl); (case hr => first | (go_simp; done) | (go_simp; rfl) | (go_simp; simp [IntKind.wrap_u8]; done)); intro gb hg w9 hbox hb; have GG := Aside0.mk (show wi.heap.size ≤ gb by rw [hg]; exact Nat.le_refl _); have BK := Aside0.mk hbox; have BL := Aside0.mk hb; clear hb hbox hg; have hcz0 : w9.cell? ⟨gb, 0, none⟩ = some (.string (⟨#[]⟩ : ByteArray)) := (blk_cell BK.out 0).trans rfl; have hcz1 : w9.cell? ⟨gb, 1, none⟩ = some (.pointer none) := (blk_cell BK.out 1).trans rfl; have hcz2 : w9.cell? ⟨gb, 2, none⟩ = some (.bool false) := (blk_cell BK.out 2).trans rfl; have hcz3 : w9.cell? ⟨gb, 3, none⟩ = some (.bool false) := (blk_cell BK.out 3).trans rfl; have hcz4 : w9.cell? ⟨gb, 4, none⟩ = some (.bool false) := (blk_cell BK.out 4).trans rfl; have hfz0 := blk_frozen BK.out 0; have hfz1 := blk_frozen BK.out 1; have hfz2 := blk_frozen BK.out 2; have hfz3 := blk_frozen BK.out 3; have hfz4 := blk_frozen BK.out 4)
                | (go_at_call 141; refine (inner_calls _ _ _ _ _ _).mono ?_; rintro e w10 ⟨⟨kn, rfl, hcon, hkb⟩, hb2⟩; have BM : Aside0 (Below wi.heap.size wi w10) := Aside0.mk (below_step (below_set (below_set (below_set (below_set (below_set BL.out GG.out) GG.out) GG.out) GG.out) GG.out) hb2); have BN : Aside0 (w10.heap[gb]? = some (.cells #[.string (opText (opOf vx.f0)), .pointer (some ⟨g, 0, none⟩), .bool (decide (0 ≤ vx.f1) && decide (vx.f1 < 3)), .bool (vx.f1 == 1), .bool (vx.f1 == 2)] 108 (0, 0))) := Aside0.mk (blk_below (put5_blk _ _ _ _ _ BK.out) hb2); have GX : Aside0 (w9.heap.size ≤ kn) := ⟨by simpa using hkb⟩; have HV := Aside0.mk hcon; clear hcon hkb hb2)
                | ((with_reducible refine gate_builtin (b := .append) (xs := #[.tmp 26, .tmp 29]) rfl ?_); at_builtin; refine Kd.R_append (kP w) (w0 := wo) wo.heap.size rfl (.tmp 26) (.tmp 29) 141 135 (.pointer none) 8 rfl Tryd.underlying141 info135 rfl Nat.zero_lt_one (by omega) u8 (li.take x22.toNat) vx [.pointer (some ⟨kn, 0, none⟩)] (fun _ => True) (fun k => k = kn) rfl rfl ?aP ?aQ ?aF ?aO ?aB ?aS ?aL ?_; (case aP => exact ⟨kn, g, rfl, rfl, Nat.le_trans HB1.out.size (Nat.le_trans BL.out.size GX.out), HV.out, TV.out⟩); (case aQ => intro k hk; subst hk; exact ⟨trivial, fun e => by have h1 := Kd.R_lt HO1.out _ e.symm; have h2 := GX.out; have h3 := BL.out.size; omega⟩); (case aF => exact fun _ _ => trivial); (case aO => exact Kd.R_below HO1.out BM.out); (case aB => exact below_step HB1.out BM.out); (case aS => exact Nat.le_trans HB1.out.size BM.out.size); (case aL => have := HL1.out; have := HX1.out; simp only [List.length_take]; omega); intro v1 w11 ho hb hg hat; rw [T1.out] at ho; have HO2 := Aside0.mk ho; have HB2 := Aside0.mk hb; have gne : some gb ≠ u8.ownBlock := (fun e => by have h1 := Kd.R_lt HO1.out _ e.symm; have h2 := GG.out; omega); have BK2 := (hg.block gb (blk_lt BN.out) gne).trans BN.out; have hcA : w11.cell? ⟨gb, 1, none⟩ = some (.pointer (some ⟨g, 0, none⟩)) := (blk_cell BK2 1).trans rfl; have tvc := (Ver.cells TV.out).2.2.2.1; have hcB := ((below_step HB.out hb).cell (World.block_lt_of_cell? w _ tvc)).trans tvc; rw [TV5.out] at hcB; clear ho hb hg hat BK2 tvc gne))
                go_roundg k2
                case measure => have := HK1.out; omega
                case rel => exact ⟨wrap64 (x22 + 1), b9, rfl, rfl, Q9, ⟨W2.out.1⟩, ⟨W2.out.2⟩, ⟨by have := HK1.out; omega⟩, HO2, HB2⟩
              · have hn1 : ¬ vx.f5.data.toList = [] := by rw [hxl]; simp
                have hn2 : ¬ vx.f5.toList = [] := by rw [toList_eq]; exact hn1
                have hn3 : ¬ vx.f5.data = #[] := fun h => hn1 (by rw [h])
                have hn4 : vx.f5.toList.isEmpty = false := by rw [toList_eq, hxl]; rfl
                have hp1 : hasPre vx = true := by rw [HP, hxl]; rfl
                rw [hp1, Bool.or_true] at Q9
                clear hxl HP hp1
                go_wp2_with (first
                | ((with_reducible refine gate_dst (N := 11) rfl ?_); refine box_event ?hg (N := 11) ?hd (cs := #[.string (⟨#[]⟩ : ByteArray), .pointer none, .bool false, .bool false, .bool false]) (t := 108) ?hr ?_; (case hd => rfl); (case hg => rfl); (case hr => first | (go_simp; done) | (go_simp; rfl) | (go_simp; simp [IntKind.wrap_u8]; done)); intro gb hg w9 hbox hb; have GG := Aside0.mk (show wi.heap.size ≤ gb by rw [hg]; exact Nat.le_refl _); have BK := Aside0.mk hbox; have BL := Aside0.mk hb; clear hb hbox hg; have hcz0 : w9.cell? ⟨gb, 0, none⟩ = some (.string (⟨#[]⟩ : ByteArray)) := (blk_cell BK.out 0).trans rfl; have hcz1 : w9.cell? ⟨gb, 1, none⟩ = some (.pointer none) := (blk_cell BK.out 1).trans rfl; have hcz2 : w9.cell? ⟨gb, 2, none⟩ = some (.bool false) := (blk_cell BK.out 2).trans rfl; have hcz3 : w9.cell? ⟨gb, 3, none⟩ = some (.bool false) := (blk_cell BK.out 3).trans rfl; have hcz4 : w9.cell? ⟨gb, 4, none⟩ = some (.bool false) := (blk_cell BK.out 4).trans rfl; have hfz0 := blk_frozen BK.out 0; have hfz1 := blk_frozen BK.out 1; have hfz2 := blk_frozen BK.out 2; have hfz3 := blk_frozen BK.out 3; have hfz4 := blk_frozen BK.out 4)
                | (go_at_call 141; refine (inner_calls _ _ _ _ _ _).mono ?_; rintro e w10 ⟨⟨kn, rfl, hcon, hkb⟩, hb2⟩; have BM : Aside0 (Below wi.heap.size wi w10) := Aside0.mk (below_step (below_set (below_set (below_set (below_set (below_set BL.out GG.out) GG.out) GG.out) GG.out) GG.out) hb2); have BN : Aside0 (w10.heap[gb]? = some (.cells #[.string (opText (opOf vx.f0)), .pointer (some ⟨g, 0, none⟩), .bool (decide (0 ≤ vx.f1) && decide (vx.f1 < 3)), .bool (vx.f1 == 1), .bool (vx.f1 == 2)] 108 (0, 0))) := Aside0.mk (blk_below (put5_blk _ _ _ _ _ BK.out) hb2); have GX : Aside0 (w9.heap.size ≤ kn) := ⟨by simpa using hkb⟩; have HV := Aside0.mk hcon; clear hcon hkb hb2)
                | ((with_reducible refine gate_builtin (b := .append) (xs := #[.tmp 26, .tmp 29]) rfl ?_); at_builtin; refine Kd.R_append (kP w) (w0 := wo) wo.heap.size rfl (.tmp 26) (.tmp 29) 141 135 (.pointer none) 8 rfl Tryd.underlying141 info135 rfl Nat.zero_lt_one (by omega) u8 (li.take x22.toNat) vx [.pointer (some ⟨kn, 0, none⟩)] (fun _ => True) (fun k => k = kn) rfl rfl ?aP ?aQ ?aF ?aO ?aB ?aS ?aL ?_; (case aP => exact ⟨kn, g, rfl, rfl, Nat.le_trans HB1.out.size (Nat.le_trans BL.out.size GX.out), HV.out, TV.out⟩); (case aQ => intro k hk; subst hk; exact ⟨trivial, fun e => by have h1 := Kd.R_lt HO1.out _ e.symm; have h2 := GX.out; have h3 := BL.out.size; omega⟩); (case aF => exact fun _ _ => trivial); (case aO => exact Kd.R_below HO1.out BM.out); (case aB => exact below_step HB1.out BM.out); (case aS => exact Nat.le_trans HB1.out.size BM.out.size); (case aL => have := HL1.out; have := HX1.out; simp only [List.length_take]; omega); intro v1 w11 ho hb hg hat; rw [T1.out] at ho; have HO2 := Aside0.mk ho; have HB2 := Aside0.mk hb; have gne : some gb ≠ u8.ownBlock := (fun e => by have h1 := Kd.R_lt HO1.out _ e.symm; have h2 := GG.out; omega); have BK2 := (hg.block gb (blk_lt BN.out) gne).trans BN.out; have hcA : w11.cell? ⟨gb, 1, none⟩ = some (.pointer (some ⟨g, 0, none⟩)) := (blk_cell BK2 1).trans rfl; have tvc := (Ver.cells TV.out).2.2.2.1; have hcB := ((below_step HB.out hb).cell (World.block_lt_of_cell? w _ tvc)).trans tvc; clear ho hb hg hat BK2 tvc gne))
                go_roundg k2
                case measure => have := HK1.out; omega
                case rel => exact ⟨wrap64 (x22 + 1), true, rfl, rfl, Q9, ⟨W2.out.1⟩, ⟨W2.out.2⟩, ⟨by have := HK1.out; omega⟩, HO2, HB2⟩
            · have d2b0 : decide (x22 < (li.length : Int)) = false := decide_eq_false d2
              have ex : li.take x22.toNat = li := List.take_of_length_le (by have := HX1.out; omega)
              rw [ex] at HO1 HQ9
              clear d2 hx170
              have BSi : Aside0 (wi.heap[w.heap.size + 1]? = _) := Aside0.mk ((HB1.out.block _ (blk_lt BS.out)).trans BS.out)
              have B4i : Aside0 (wi.heap[w.heap.size]? = _) := Aside0.mk ((HB1.out.block _ (blk_lt B4.out)).trans B4.out)
              have HOi := Aside0.mk (Kd.R_below HO.out HB1.out)
              have HFi := Aside0.mk (Kd.R_below HF.out HB1.out)
              have hg0 : wi.cell? ⟨w.heap.size + 1, 0, none⟩ = some gv := (blk_cell BSi.out 0).trans rfl
              have TF : Aside0 ((l0.take x16.toNat).map (fun l => l.any hasPre) ++ [b9] = (l0.take (wrap64 (x16 + 1)).toNat).map (fun l => l.any hasPre)) := ⟨by rw [← T.out, List.map_append, HQ9.out]; rfl⟩
              obtain ⟨A8, c8, e8, _, _⟩ := Kd.R_reads HO1.out
              subst e8
              go_wp2_with (first
                | ((with_reducible refine gate_builtin (b := .append) (xs := #[.tmp 39, .tmp 41]) rfl ?_); at_builtin; refine Kd.R_append (Kd.slice 135 (kP w)) (w0 := w) w.heap.size rfl (.tmp 39) (.tmp 41) 114 141 (.slice none 0 0) 24 rfl Tryd.underlying114 info141 rfl Nat.zero_lt_one (by omega) gv (l0.take x16.toNat) li [.slice A8 li.length c8] (fun _ => True) (fun k => wo.heap.size ≤ k) rfl rfl ?aP ?aQ ?aF ?aO ?aB ?aS ?aL ?_; (case aP => exact Kd.M_row (Kd.R_lower (Kd.R_mono (Kd.R_bound HO1.out) (fun k hk => hk.2.1)) HB.out.size)); (case aQ => intro k hk; exact ⟨trivial, fun e => by have h1 := Kd.R_lt HO.out _ e.symm; omega⟩); (case aF => exact fun _ _ => trivial); (case aO => exact HOi.out); (case aB => exact HBi.out); (case aS => exact HBi.out.size); (case aL => have := HL.out; have := HX.out; simp only [List.length_take]; omega); intro v1 w11 ho hb hg hat; rw [T.out] at ho; have HO2 := Aside0.mk ho; have HB2 := Aside0.mk hb; have BS1 := Aside0.mk ((hg.block _ (blk_lt BSi.out) (own_ne HOi.out BSi.out (by decide))).trans BSi.out); have B41 := Aside0.mk ((hg.block _ (blk_lt B4i.out) (own_ne HOi.out B4i.out (by decide))).trans B4i.out); have HF1 := Aside0.mk (Kd.R_mono (Kd.R_grown (R_apart HFi.out HOi.out (bool_ne 141 (by decide))) hg (fun k hk => hk)) (fun _ _ => trivial)); clear ho hb hg hat; have hk0 : w11.cell? ⟨w.heap.size + 1, 0, none⟩ = some gv := (blk_cell BS1.out 0).trans rfl; have hk1 : w11.cell? ⟨w.heap.size + 1, 1, none⟩ = some fv := (blk_cell BS1.out 1).trans rfl; have hf0 := blk_frozen BS1.out 0; have hf1 := blk_frozen BS1.out 1; obtain ⟨Av, nv, cv, ev⟩ := R_shape HO2.out; subst ev)
                | ((with_reducible refine gate_builtin (b := .append) (xs := #[.tmp 45, .tmp 47]) rfl ?_); at_builtin; have BSx := Aside0.mk (blk_put BS1.out 0 (.slice Av nv cv) rfl); have B4x := Aside0.mk ((Below.heap_setCell w11 ⟨w.heap.size + 1, 0, none⟩ (.slice Av nv cv) w.heap.size (Nat.ne_of_lt (Nat.lt_succ_self _))).trans B41.out); have HOx := Aside0.mk (Kd.R_set HO2.out BS1.out (grp_ne w 117 (by decide) (by decide) (by decide)) 0 (.slice Av nv cv)); have HFx := Aside0.mk (Kd.R_set HF1.out BS1.out (bool_ne 117 (by decide)) 0 (.slice Av nv cv)); refine Kd.R_append Kd.bool (w0 := w) w.heap.size rfl (.tmp 45) (.tmp 47) 115 4 (.bool false) 1 rfl Tryd.underlying115 info4 rfl (by decide) (by omega) fv ((l0.take x16.toNat).map (fun l => l.any hasPre)) b9 [.bool b9] (fun _ => True) (fun _ => False) rfl ?aX ?aP (fun _ hk => hk.elim) ?aF ?aO ?aB ?aS ?aL ?_; (case aX => show Value.slice (some ⟨w11.heap.size, 0, none⟩) 1 1 = _; simp); (case aP => exact rfl); (case aB => exact below_set HB2.out (Nat.le_succ _)); (case aF => exact fun _ _ => trivial); (case aO => exact HFx.out); (case aS => exact (below_set HB2.out (Nat.le_succ _)).size); (case aL => have := HL.out; have := HX.out; simp only [List.length_map, List.length_take]; omega); intro v2 w12 ho hb hg hat; rw [TF.out] at ho; have HF2 := Aside0.mk ho; have HB3 := Aside0.mk hb; have BS2 := Aside0.mk ((hg.block _ (blk_lt BSx.out) (own_ne HFx.out BSx.out (by decide))).trans BSx.out); have B42 := Aside0.mk ((hg.block _ (blk_lt B4x.out) (own_ne HFx.out B4x.out (by decide))).trans B4x.out); have HO3 := Aside0.mk (Kd.R_mono (Kd.R_grown (R_apart HOx.out HFx.out (grp_ne w 4 (by decide) (by decide) (by decide))) hg (fun k hk => hk)) (fun _ _ => trivial)); clear ho hb hg hat; have hm1 : w12.cell? ⟨w.heap.size + 1, 1, none⟩ = some fv := (blk_cell BS2.out 1).trans rfl; have hn1 := blk_frozen BS2.out 1; obtain ⟨A2, n2, cc2, e2⟩ := R_shape HF2.out; subst e2))
              go_roundg k1
              case measure => have := HK.out; omega
              case rel => exact ⟨wrap64 (x16 + 1), _, _, rfl, ⟨W1.out.1⟩, ⟨W1.out.2⟩, ⟨by have := HK.out; omega⟩, ⟨blk_put BS2.out 1 _ rfl⟩, ⟨(Below.heap_setCell w12 ⟨w.heap.size + 1, 1, none⟩ _ w.heap.size (Nat.ne_of_lt (Nat.lt_succ_self _))).trans B42.out⟩, ⟨Kd.R_set HO3.out BS2.out (grp_ne w 117 (by decide) (by decide) (by decide)) 1 _⟩, ⟨Kd.R_set HF2.out BS2.out (bool_ne 117 (by decide)) 1 _⟩, ⟨below_set HB3.out (Nat.le_succ _)⟩⟩
      · have c2b0 : decide (x16 < (l0.length : Int)) = false := decide_eq_false c2
        have ex : l0.take x16.toNat = l0 := List.take_of_length_le (by have := HX.out; omega)
        rw [ex] at HO HF
        clear c2
        have hg0 : _ = some gv := (blk_cell BS.out 0).trans rfl
        have hg1 : _ = some fv := (blk_cell BS.out 1).trans rfl
        have hg2 : _ = some (Value.bool pre) := (blk_cell BS.out 2).trans rfl
        have hb0 : _ = some (Value.slice none 0 0) := (blk_cell B4.out 0).trans rfl
        have hb1 : _ = some (Value.slice none 0 0) := (blk_cell B4.out 1).trans rfl
        have hb2 : _ = some (Value.bool false) := (blk_cell B4.out 2).trans rfl
        have hf0 := blk_frozen B4.out 0
        have hf1 := blk_frozen B4.out 1
        have hf2 := blk_frozen B4.out 2
        have R0 := Kd.R_set HO.out B4.out (grp_ne w 117 (by decide) (by decide) (by decide)) 0 gv
        have P0 := blk_put B4.out 0 gv rfl
        have R1 := Kd.R_set R0 P0 (grp_ne w 117 (by decide) (by decide) (by decide)) 1 fv
        have P1 := blk_put P0 1 fv rfl
        have R2 := Aside0.mk (Kd.R_set R1 P1 (grp_ne w 117 (by decide) (by decide) (by decide)) 2 (.bool pre))
        have P2 := Aside0.mk (blk_put P1 2 (.bool pre) rfl)
        have F0 := Kd.R_set HF.out B4.out (bool_ne 117 (by decide)) 0 gv
        have F1 := Kd.R_set F0 P0 (bool_ne 117 (by decide)) 1 fv
        have F2 := Aside0.mk (Kd.R_set F1 P1 (bool_ne 117 (by decide)) 2 (.bool pre))
        clear R0 R1 F0 F1 P0 P1
        obtain ⟨Ag, ng, cg, eg⟩ := R_shape HO.out
        subst eg
        obtain ⟨Af, nf, cf, ef⟩ := R_shape HF.out
        subst ef
        go_wp2
        refine bodyPost_ret (results_single rfl (.cell w.heap.size 117 _ (0, 0) _ rfl P2.out hu117 rfl (by kernel_rfl) .nil)) rfl ?_
        exact ⟨⟨_, _, rfl, R2.out, F2.out⟩, below_set (below_set (below_set HB.out (Nat.le_refl _)) (Nat.le_refl _)) (Nat.le_refl _)⟩
end Go.Proofs.YtgenbmhmcnaiiaaDoor.H

/- Constraints.Check over lists of lists. -/
namespace Go.Proofs.YtgenbmhmcnaiiaaDoor.H
open Go.RowKit Go.Proofs.YtgenbmhmcnaiiaaDoor.PG Go.Proofs.YtgenbmhmcnaiiaaDoorW.PrintWords Go.Proofs.YtgenbmhmcnaiiaaDoorW.PrintLast Go.Proofs.YtgenbmhmcnaiiaaDoorW.PrintMore
set_option linter.unusedVariables false
set_option linter.unusedSimpArgs false

theorem at_kP {w0 w : World} {A : Option Addr} {n : Nat} {xs : List S54} (h : Kd.C (kP w0) w A n xs) (i : Int) (h0 : 0 ≤ i) (h1 : i < n) : ∃ ad k g, A = some ad ∧ w.cell? (ad.add i.toNat) = some (.pointer (some ⟨k, 0, none⟩)) ∧ conAt w k g (rd_T54 xs i) ∧ tVer w0 g (rd_T54 xs i) := by
  obtain ⟨ad, c, e, _, hK, hc0⟩ := Kd.C_get h z54 i h0 h1
  have hc : ∀ j u, c[j]? = some u → w.cell? (ad.add (i.toNat * 1 + j)) = some u := hc0
  obtain ⟨k, g, rfl, hk, hv⟩ := hK
  exact ⟨ad, k, g, e, by have hq := hc 0 _ rfl; rwa [Nat.mul_one, Nat.add_zero] at hq, hk, hv⟩
theorem at_GP {w0 w : World} {A : Option Addr} {n : Nat} {xs : List (List S54)} (h : Kd.C (Kd.slice 135 (kP w0)) w A n xs) (i : Int) (h0 : 0 ≤ i) (h1 : i < n) : ∃ ad A0 c0, A = some ad ∧ w.cell? (ad.add i.toNat) = some (.slice A0 (rd_LC xs i).length c0) ∧ (rd_LC xs i).length ≤ c0 ∧ (kP w0).C w A0 (rd_LC xs i).length (rd_LC xs i) := by
  obtain ⟨ad, c, e, _, hK, hc0⟩ := Kd.C_get h ([] : List S54) i h0 h1
  have hc : ∀ j u, c[j]? = some u → w.cell? (ad.add (i.toNat * 1 + j)) = some u := hc0
  obtain ⟨A0, c0, rfl, l0, g0⟩ := hK
  exact ⟨ad, A0, c0, e, by have hq := hc 0 _ rfl; rwa [Nat.mul_one, Nat.add_zero] at hq, l0, g0⟩
theorem at_bool {w : World} {A : Option Addr} {n : Nat} {xs : List Bool} (h : Kd.C Kd.bool w A n xs) (i : Int) (h0 : 0 ≤ i) (h1 : i < n) : ∃ ad, A = some ad ∧ w.cell? (ad.add i.toNat) = some (.bool (xs.getD i.toNat false)) := by
  obtain ⟨ad, c, e, _, hK, hc0⟩ := Kd.C_get h false i h0 h1
  have hc : ∀ j u, c[j]? = some u → w.cell? (ad.add (i.toNat * 1 + j)) = some u := hc0
  obtain rfl : c = [.bool (xs.getD i.toNat false)] := hK
  exact ⟨ad, e, by have hq := hc 0 _ rfl; rwa [Nat.mul_one, Nat.add_zero] at hq⟩

theorem ret_b {x y : Bool} (h : x = y) : Ending.returned (.bool x) = .returned (.bool y) := by rw [h]
/-- Does one term hold of a version? -/
def termOk (x : S54) (pre : Bool) (a b c : Int) (p : ByteArray) : Bool := checkHolds (opText (opOf x.f0)) (decide (0 ≤ x.f1) && decide (x.f1 < 3)) (x.f1 == 1) (x.f1 == 2) pre a b c p x.f2 x.f3 x.f4 x.f5
def okT (x : S54) : Prop := x.f5.size ≤ 2147483647 ∧ 0 ≤ x.f2 ∧ 0 ≤ x.f3 ∧ OpKnown (opText (opOf x.f0))
def groupOk (pre : Bool) (a b c : Int) (p : ByteArray) (l : List S54) : Bool := l.all (fun x => termOk x (pre || l.any hasPre) a b c p)
theorem term_ok_calls (x : S54) (k g gv : Nat) (a b c : Int) (p m o : ByteArray) (pre : Bool) (hx : okT x) (hp : p.size ≤ 2147483647) (w0 w : World) (hw : Below w0.heap.size w0 w) (hG : GE w) (hv : Ver w gv a b c p m o) (hk : conAt w k g x) (ht : tVer w0 g x) :
    Calls Tryd.prog 144 #[.pointer (some ⟨k, 0, none⟩), .pointer (some ⟨gv, 0, none⟩), .bool pre] w fun e w' => (∃ y, e = .returned (.tuple #[.bool (termOk x pre a b c p), y])) ∧ Below w.heap.size w w' :=
  check_calls gv k g a b c p m o _ _ _ _ _ _ _ _ _ _ pre hp hx.1 w ⟨hG, hv, hk, Ver.below ht hw⟩ hx.2.1 hx.2.2.1 hx.2.2.2

theorem drop_rd {α : Type} {l : List α} {x : Int} {d : α} (h0 : 0 ≤ x) (h1 : x < (l.length : Int)) (hl : l.length ≤ 2147483647) : l.drop x.toNat = l.getD x.toNat d :: l.drop (wrap64 (x + 1)).toNat := by
  have hx : x.toNat < l.length := by omega
  have e : (wrap64 (x + 1)).toNat = x.toNat + 1 := by unfold wrap64; omega
  rw [e, List.drop_eq_getElem_cons hx, List.getD_eq_getElem?_getD, List.getElem?_eq_getElem hx]
  rfl

set_option maxRecDepth 100000 in
set_option maxHeartbeats 4000000 in
theorem holds_calls (Ag Af : Option Addr) (cg cf : Nat) (l0 : List (List S54)) (pre : Bool) (gv : Nat) (a b c : Int) (p m o : ByteArray) (hp : p.size ≤ 2147483647) (w0 w : World) (hw : Below w0.heap.size w0 w) (hG : GE w) (hv : Ver w gv a b c p m o)
    (ho : Kd.C (Kd.slice 135 (kP w0)) w Ag l0.length l0) (hf : Kd.C Kd.bool w Af l0.length (l0.map (fun l => l.any hasPre))) (hl : l0.length ≤ 2147483647) (hll : ∀ l ∈ l0, l.length ≤ 2147483647) (hok : ∀ l ∈ l0, ∀ x ∈ l, okT x) :
    Calls Tryd.prog 114 #[.agg #[.slice Ag l0.length cg, .slice Af l0.length cf, .bool pre], .pointer (some ⟨gv, 0, none⟩)] w fun e w' => e = .returned (.bool (l0.any (groupOk pre a b c p))) ∧ Below w.heap.size w w' := by
  have hu117 := Tryd.underlying117
  obtain ⟨R, hR⟩ : ∃ R, l0.any (groupOk pre a b c p) = R := ⟨_, rfl⟩
  rw [hR]
  have HG := Aside0.mk hG
  have HV := Aside0.mk hv
  have HW := Aside0.mk hw
  have HO := Aside0.mk ho
  have HF := Aside0.mk hf
  have HL := Aside0.mk hl
  have HLL := Aside0.mk hll
  have HOK := Aside0.mk hok
  have HPS := Aside0.mk hp
  have HR := Aside0.mk hR
  clear hG hv hw ho hf hl hll hok hp hR
  obtain ⟨k, hk⟩ : ∃ k, k = l0.length + 1 := ⟨_, rfl⟩
  have B0 := blk_new w (Obj.cells #[.slice Ag l0.length cg, .slice Af l0.length cf, .bool pre] 117)
  have hq0 : _ = some (Value.slice Ag l0.length cg) := (blk_cell B0 0).trans rfl
  go_enter Tryd.func114, Tryd.ntmps114
  go_wp2
  clear hq0
  go_loopg [15] k (fun kq v15 w' => ∃ (x15 : Int), v15 = .int .i64 x15 ∧ Aside0 (x15.toNat + kq = l0.length + 1) ∧ Aside0 (0 ≤ x15 ∧ x15 ≤ l0.length) ∧ Aside0 (kq ≤ k) ∧ Aside0 ((l0.drop x15.toNat).any (groupOk pre a b c p) = R) ∧ Aside0 (w'.heap[w.heap.size]? = some (.cells #[.slice Ag l0.length cg, .slice Af l0.length cf, .bool pre] 117 (0, 0))) ∧ Aside0 (Below w.heap.size w w'))
  case atStart => exact ⟨0, rfl, ⟨by simp [hk]⟩, ⟨by omega⟩, ⟨Nat.le_refl _⟩, ⟨by simpa using HR.out⟩, ⟨B0⟩, ⟨below_new _ _⟩⟩
  case round =>
    obtain ⟨x15, rfl, HA, HX, HK, HQ, BS, HB⟩ := hrel
    cases gk with
    | zero => exact absurd HA.out (by have := HX.out; omega)
    | succ k1 =>
      clear hk HR B0
      by_cases c2 : x15 < (l0.length : Int)
      · have c2b0 : decide (x15 < (l0.length : Int)) = true := decide_eq_true c2
        have p170 : 0 ≤ (x15 : Int) := HX.out.1
        have q170 : x15 < (l0.length : Int) := c2
        have D := Aside0.mk (drop_rd (d := ([] : List S54)) p170 q170 HL.out)
        have W1 : Aside0 ((wrap64 (x15 + 1)).toNat + k1 = l0.length + 1 ∧ 0 ≤ wrap64 (x15 + 1) ∧ wrap64 (x15 + 1) ≤ l0.length) := ⟨by have := HL.out; have := HA.out; unfold wrap64; omega⟩
        obtain ⟨ad170, A1, c1, e170, hx170, hc1, hr1⟩ := at_GP HO.out x15 p170 q170
        obtain ⟨ad171, e171, hx171⟩ := at_bool HF.out x15 p170 (by simpa using q170)
        have hfl : (l0.map (fun l => l.any hasPre)).getD x15.toNat false = (rd_LC l0 x15).any hasPre := by
          have hx : x15.toNat < l0.length := by omega
          unfold rd_LC
          simp [List.getD_eq_getElem?_getD, List.getElem?_eq_getElem hx]
        rw [hfl] at hx171
        have hm : rd_LC l0 x15 ∈ l0 := by
          have hx : x15.toNat < l0.length := by omega
          unfold rd_LC
          rw [List.getD_eq_getElem?_getD, List.getElem?_eq_getElem hx]
          exact List.getElem_mem hx
        have HL1 := Aside0.mk (HLL.out _ hm)
        have HOK1 := Aside0.mk (HOK.out _ hm)
        change Aside0 (l0.drop x15.toNat = rd_LC l0 x15 :: l0.drop (wrap64 (x15 + 1)).toNat) at D
        cases e170
        cases e171
        have HR1 := Aside0.mk hr1
        have HX0 := Aside0.mk hx170
        have HX1 := Aside0.mk hx171
        clear hr1 hm hfl
        replace hx170 := (HB.out.cell (World.block_lt_of_cell? w _ hx170)).trans hx170
        clear hx171
        replace p170 := eq_true p170
        replace q170 := eq_true q170
        clear c2
        generalize rd_LC l0 x15 = li at *
        obtain ⟨RG, hRG⟩ : ∃ RG, groupOk pre a b c p li = RG := ⟨_, rfl⟩
        have QT : Aside0 (RG = true → R = true) := ⟨fun h => by rw [← HQ.out, D.out, List.any_cons, hRG, h]; rfl⟩
        have QF : Aside0 (RG = false → (l0.drop (wrap64 (x15 + 1)).toNat).any (groupOk pre a b c p) = R) := ⟨fun h => by rw [← HQ.out, D.out, List.any_cons, hRG, h]; rfl⟩
        obtain ⟨fl, hfl⟩ : ∃ fl, li.any hasPre = fl := ⟨_, rfl⟩
        rw [hfl] at HX1
        have HRG : Aside0 (li.all (fun x => termOk x (pre || fl) a b c p) = RG) := ⟨by rw [← hRG, ← hfl]; rfl⟩
        clear hRG hfl
        rename World => wo
        go_wp2
        obtain ⟨kk, hkk⟩ : ∃ kk, kk = li.length + 1 := ⟨_, rfl⟩
        go_loopg [7, 22] kk (fun kq v7 v22 w' => ∃ (x22 : Int), v22 = .int .i64 x22 ∧ v7 = .bool true ∧ Aside0 (x22.toNat + kq = li.length + 1) ∧ Aside0 (0 ≤ x22 ∧ x22 ≤ li.length) ∧ Aside0 (kq ≤ kk) ∧ Aside0 ((li.drop x22.toNat).all (fun x => termOk x (pre || fl) a b c p) = RG) ∧ Aside0 (Below wo.heap.size wo w'))
        case atStart => exact ⟨0, rfl, rfl, ⟨by simp [hkk]⟩, ⟨by omega⟩, ⟨Nat.le_refl _⟩, ⟨by simpa using HRG.out⟩, ⟨Below.refl _ _⟩⟩
        case round =>
          obtain ⟨x22, rfl, rfl, HA1, HY1, HK1, HQ1, HB1⟩ := hrel
          cases gk with
          | zero => exact absurd HA1.out (by have := HY1.out; omega)
          | succ k2 =>
            clear hkk HRG hx170
            rename World => wi
            have HBi : Aside0 (Below w.heap.size w wi) := Aside0.mk (below_step HB.out HB1.out)
            have BSi : Aside0 (wi.heap[w.heap.size]? = some (.cells #[.slice (some ad170) l0.length cg, .slice (some ad171) l0.length cf, .bool pre] 117 (0, 0))) := Aside0.mk ((HB1.out.block _ (blk_lt BS.out)).trans BS.out)
            by_cases d2 : x22 < (li.length : Int)
            · have d2b0 : decide (x22 < (li.length : Int)) = true := decide_eq_true d2
              have p180 : 0 ≤ (x22 : Int) := HY1.out.1
              have q180 : x22 < (li.length : Int) := d2
              have D1 := Aside0.mk (drop_rd (d := z54) p180 q180 HL1.out)
              change Aside0 (li.drop x22.toNat = rd_T54 li x22 :: li.drop (wrap64 (x22 + 1)).toNat) at D1
              have W2 : Aside0 ((wrap64 (x22 + 1)).toNat + k2 = li.length + 1 ∧ 0 ≤ wrap64 (x22 + 1) ∧ wrap64 (x22 + 1) ≤ li.length) := ⟨by have := HL1.out; have := HA1.out; unfold wrap64; omega⟩
              obtain ⟨ad180, kt, gt, e180, hx180, hcon, htv⟩ := at_kP HR1.out x22 p180 q180
              cases e180
              have hx22 : x22.toNat < li.length := by omega
              have hmx : rd_T54 li x22 ∈ li := by
                unfold rd_T54
                rw [List.getD_eq_getElem?_getD, List.getElem?_eq_getElem hx22]
                exact List.getElem_mem hx22
              have hxok := HOK1.out _ hmx
              replace hx180 := (HBi.out.cell (World.block_lt_of_cell? w _ hx180)).trans hx180
              have hx171 := (HBi.out.cell (World.block_lt_of_cell? w _ HX1.out)).trans HX1.out
              have hs0 : _ = some (Value.slice (some ad170) l0.length cg) := (blk_cell BSi.out 0).trans rfl
              have hs1 : _ = some (Value.slice (some ad171) l0.length cf) := (blk_cell BSi.out 1).trans rfl
              have hs2 : _ = some (Value.bool pre) := (blk_cell BSi.out 2).trans rfl
              have F : Aside0 (∀ W, Below wi.heap.size wi W → Calls Tryd.prog 144 #[.pointer (some ⟨kt, 0, none⟩), .pointer (some ⟨gv, 0, none⟩), .bool (pre || fl)] W fun e w' => (∃ y, e = .returned (.tuple #[.bool (termOk (rd_T54 li x22) (pre || fl) a b c p), y])) ∧ Below W.heap.size W w') :=
                ⟨fun W hb => term_ok_calls _ kt gt gv a b c p m o (pre || fl) hxok HPS.out w0 W (below_step HW.out (below_step HBi.out hb)) (HG.out.below (below_step HBi.out hb)) (HV.out.below (below_step HBi.out hb)) (Con.below hcon (below_step HBi.out hb)) htv⟩
              obtain ⟨t, ht⟩ : ∃ t, termOk (rd_T54 li x22) (pre || fl) a b c p = t := ⟨_, rfl⟩
              have TT : Aside0 (t = true → (li.drop (wrap64 (x22 + 1)).toNat).all (fun x => termOk x (pre || fl) a b c p) = RG) := ⟨fun h => by rw [← HQ1.out, D1.out, List.all_cons, ht, h]; rfl⟩
              have TF : Aside0 (t = false → RG = false) := ⟨fun h => by rw [← HQ1.out, D1.out, List.all_cons, ht, h]; rfl⟩
              rw [ht] at F
              replace p180 := eq_true p180
              replace q180 := eq_true q180
              clear d2 ht hxok hmx hx22 hcon htv
              cases pre with
              | true =>
                simp only [Bool.true_or] at F TT
                cases t with
                | true =>
                  have TT1 := Aside0.mk (TT.out rfl)
                  clear TT TF
                  go_wp2_with (go_at_call 144; refine (F.out _ (Below.refl _ _)).mono ?_; rintro e w10 ⟨⟨y, rfl⟩, hb2⟩)
                  go_roundg k2
                  case measure => have := HK1.out; omega
                  case rel => exact ⟨wrap64 (x22 + 1), rfl, rfl, ⟨W2.out.1⟩, ⟨W2.out.2⟩, ⟨by have := HK1.out; omega⟩, TT1, ⟨below_step HB1.out hb2⟩⟩
                | false =>
                  have QF1 := Aside0.mk (QF.out (TF.out rfl))
                  clear TT TF
                  go_wp2_with (go_at_call 144; refine (F.out _ (Below.refl _ _)).mono ?_; rintro e w10 ⟨⟨y, rfl⟩, hb2⟩)
                  go_roundg k1
                  case measure => have := HK.out; omega
                  case rel => exact ⟨wrap64 (x15 + 1), rfl, ⟨W1.out.1⟩, ⟨W1.out.2⟩, ⟨by have := HK.out; omega⟩, QF1, ⟨(hb2.block _ (blk_lt BSi.out)).trans BSi.out⟩, ⟨below_step HBi.out hb2⟩⟩
              | false =>
                simp only [Bool.false_or] at F TT
                cases t with
                | true =>
                  have TT1 := Aside0.mk (TT.out rfl)
                  clear TT TF
                  go_wp2_with (go_at_call 144; refine (F.out _ (Below.refl _ _)).mono ?_; rintro e w10 ⟨⟨y, rfl⟩, hb2⟩)
                  go_roundg k2
                  case measure => have := HK1.out; omega
                  case rel => exact ⟨wrap64 (x22 + 1), rfl, rfl, ⟨W2.out.1⟩, ⟨W2.out.2⟩, ⟨by have := HK1.out; omega⟩, ⟨by simpa using TT1.out⟩, ⟨below_step HB1.out hb2⟩⟩
                | false =>
                  have QF1 := Aside0.mk (QF.out (TF.out rfl))
                  clear TT TF
                  go_wp2_with (go_at_call 144; refine (F.out _ (Below.refl _ _)).mono ?_; rintro e w10 ⟨⟨y, rfl⟩, hb2⟩)
                  go_roundg k1
                  case measure => have := HK.out; omega
                  case rel => exact ⟨wrap64 (x15 + 1), rfl, ⟨W1.out.1⟩, ⟨W1.out.2⟩, ⟨by have := HK.out; omega⟩, QF1, ⟨(hb2.block _ (blk_lt BSi.out)).trans BSi.out⟩, ⟨below_step HBi.out hb2⟩⟩
            · have d2b0 : decide (x22 < (li.length : Int)) = false := decide_eq_false d2
              have ex : li.drop x22.toNat = [] := List.drop_eq_nil_of_le (by have := HY1.out; omega)
              have HRG1 : Aside0 (R = true) := ⟨QT.out (by rw [← HQ1.out, ex]; rfl)⟩
              clear d2
              go_wp2
              go_ret
              exact ⟨ret_b HRG1.out.symm, HBi.out⟩
      · have c2b0 : decide (x15 < (l0.length : Int)) = false := decide_eq_false c2
        have ex : l0.drop x15.toNat = [] := List.drop_eq_nil_of_le (by have := HX.out; omega)
        have HR0 : Aside0 (R = false) := ⟨by rw [← HQ.out, ex]; rfl⟩
        clear c2
        go_wp2
        go_ret
        exact ⟨ret_b HR0.out.symm, HB.out⟩
end Go.Proofs.YtgenbmhmcnaiiaaDoor.H

/- impl.TermsHold: lists of lists of terms of a version. -/
namespace Go.Proofs.YtgenbmhmcnaiiaaDoor.H
open Go.RowKit Go.Proofs.YtgenbmhmcnaiiaaDoor.PG Go.Proofs.YtgenbmhmcnaiiaaDoorW.PrintWords Go.Proofs.YtgenbmhmcnaiiaaDoorW.PrintLast Go.Proofs.YtgenbmhmcnaiiaaDoorW.PrintMore
set_option linter.unusedVariables false
set_option linter.unusedSimpArgs false

def PTs (l0 : List (List S54)) (w : World) (v : Value) : Prop := ∃ A c, v = .slice A l0.length c ∧ l0.length ≤ c ∧ Kd.C (Kd.slice 108 kC) w A l0.length l0
theorem PTs.below {l0 : List (List S54)} {w w' : World} {v : Value} (h : PTs l0 w v) (hb : Below w.heap.size w w') : PTs l0 w' v := by
  obtain ⟨A, c, e, hc, h⟩ := h
  exact ⟨A, c, e, hc, Kd.C_below h hb⟩
def PGs (l0 : List (List S54)) (pre : Bool) (w : World) (v : Value) : Prop := ∃ W0 Ag cg Af cf, v = .agg #[.slice Ag l0.length cg, .slice Af l0.length cf, .bool pre] ∧ Below W0.heap.size W0 w ∧ Kd.C (Kd.slice 135 (kP W0)) w Ag l0.length l0 ∧ Kd.C Kd.bool w Af l0.length (l0.map (fun l => l.any hasPre))
theorem PGs.below {l0 : List (List S54)} {pre : Bool} {w w' : World} {v : Value} (h : PGs l0 pre w v) (hb : Below w.heap.size w w') : PGs l0 pre w' v := by
  obtain ⟨W0, Ag, cg, Af, cf, e, h0, h1, h2⟩ := h
  exact ⟨W0, Ag, cg, Af, cf, e, below_step h0 hb, Kd.C_below h1 hb, Kd.C_below h2 hb⟩
theorem terms_calls' (A0 : Option Addr) (c0 : Nat) (l0 : List (List S54)) (w : World) (hr0 : Kd.C (Kd.slice 54 k54) w A0 l0.length l0) (hc0 : l0.length ≤ c0) (hl : l0.length ≤ 2147483647) (hll : ∀ x ∈ l0, x.length ≤ 2147483647) :
    Calls Tryd.prog 113 #[.slice A0 l0.length c0] w fun e w' => (∃ v, e = .returned v ∧ PTs l0 w' v) ∧ Below w.heap.size w w' := by
  refine (terms_calls A0 c0 l0 w hr0 hc0 hl hll).mono ?_
  rintro e w' ⟨v, rfl, hR, hb⟩
  obtain ⟨A, c, rfl, hc, hC⟩ := Kd.R_reads hR
  exact ⟨⟨_, rfl, A, c, rfl, hc, hC⟩, hb⟩
theorem groups_calls' (l0 : List (List S54)) (pre : Bool) (v : Value) (w : World) (h : PTs l0 w v) (hl : l0.length ≤ 2147483647) (hll : ∀ x ∈ l0, x.length ≤ 2147483647) :
    Calls Tryd.prog 112 #[v, .bool pre] w fun e w' => (∃ v, e = .returned v ∧ PGs l0 pre w' v) ∧ Below w.heap.size w w' := by
  obtain ⟨A, c, rfl, hc, hC⟩ := h
  refine (groups_calls A c l0 pre w hC hc hl hll).mono ?_
  rintro e w' ⟨⟨gv, fv, rfl, hg, hf⟩, hb⟩
  obtain ⟨Ag, cg, rfl, _, hCg⟩ := Kd.R_reads hg
  obtain ⟨Af, cf, ef, _, hCf⟩ := Kd.R_reads hf
  rw [List.length_map] at ef hCf
  subst ef
  exact ⟨⟨_, rfl, w, Ag, cg, Af, cf, rfl, hb, hCg, hCf⟩, hb⟩
theorem holds_calls' (l0 : List (List S54)) (pre : Bool) (u v : Value) (a b c : Int) (p m o : ByteArray) (hp : p.size ≤ 2147483647) (w : World) (hG : GE w) (h : PGs l0 pre w u) (hv : NewVer 0 a b c p m o w v) (hl : l0.length ≤ 2147483647) (hll : ∀ l ∈ l0, l.length ≤ 2147483647) (hok : ∀ l ∈ l0, ∀ x ∈ l, okT x) :
    Calls Tryd.prog 114 #[u, v] w fun e w' => e = .returned (.bool (l0.any (groupOk pre a b c p))) ∧ Below w.heap.size w w' := by
  obtain ⟨W0, Ag, cg, Af, cf, rfl, h0, h1, h2⟩ := h
  obtain ⟨g, rfl, hver, _⟩ := hv
  exact holds_calls Ag Af cg cf l0 pre g a b c p m o hp W0 w h0 hG hver h1 h2 hl hll hok

set_option maxRecDepth 100000 in
set_option maxHeartbeats 4000000 in
theorem termshold_calls (A0 : Option Addr) (c0 : Nat) (l0 : List (List S54)) (a b c : Int) (p m : ByteArray) (pre : Bool) (hp : p.size ≤ 2147483647) (w : World) (hG : GE w) (hr0 : Kd.C (Kd.slice 54 k54) w A0 l0.length l0) (hc0 : l0.length ≤ c0) (hl : l0.length ≤ 2147483647) (hll : ∀ l ∈ l0, l.length ≤ 2147483647) (hok : ∀ l ∈ l0, ∀ x ∈ l, okT x) :
    Calls Tryd.prog 70 #[.slice A0 l0.length c0, .agg #[.int .u64 a, .int .u64 b, .int .u64 c, .string p, .string m], .bool pre] w fun e w' => e = .returned (.bool (l0.any (groupOk pre a b c p))) ∧ Below w.heap.size w w' := by
  have hu27 := Tryd.underlying27
  obtain ⟨R, hR0⟩ : ∃ R : Bool, Hid (l0.any (groupOk pre a b c p) = R) := ⟨_, Lib.hid rfl⟩
  rw [hR0.out]
  have C3 := Lib.hid (fun u v W hW h hv => (hR0.out ▸ holds_calls' l0 pre u v a b c p m ⟨#[]⟩ hp W hW h hv hl hll hok : Calls Tryd.prog 114 #[u, v] W fun e w' => e = .returned (.bool R) ∧ Below W.heap.size W w'))
  have C2 := Lib.hid (fun v W h => groups_calls' l0 pre v W h hl hll)
  have C1 := Lib.hid (fun W h => terms_calls' A0 c0 l0 W h hc0 hl hll)
  clear hR0 hok hll
  have q2 := PV.new w a b c p m
  have q0 := below_new w (.cells #[.int .u64 a, .int .u64 b, .int .u64 c, .string p, .string m] 27)
  go_enter Tryd.func70, Tryd.ntmps70
  go_wp2_with fail
  refine region_row mixed (by kernel_rfl) (fun i wv v => match i with
      | 0 => v = .slice A0 l0.length c0
      | 1 => PTs l0 wv v
      | 2 => v = .bool pre
      | 3 => PGs l0 pre wv v
      | 4 => v = .agg #[.int .u64 a, .int .u64 b, .int .u64 c, .string p, .string m]
      | 5 => NewVer 0 a b c p m ⟨#[]⟩ wv v
      | 6 => v = .bool R
      | 7 => v = .bool R
      | _ => True) Gr (Gr.refl _) Gr.trans ?_ ?_ ?_
  · intro i v w1 w2 h hr
    match i, h with
    | 1, h => exact PTs.below h hr
    | 3, h => exact PGs.below h hr
    | 5, h => exact NewVer.below h hr
    | 0, h | 2, h | 4, h | 6, h | 7, h | _ + 8, h => exact h
  · refine ⟨?_, ?_, ?_, ?_, ?_, ?_, ?_, ?_, trivial⟩
    · intro x wx hR hd hs
      have e0 := ev_of (hs 0 (by kernel_rfl) : x.eval (.tmp 0) = .slice A0 l0.length c0)
      clear hd hs
      refine wpOp_plain rfl rfl ?_
      go_simp
      exact ⟨_, rfl, rfl, Gr.refl _⟩
    · intro x wx hR hd hs
      have e7 := ev_of (hd 0 _ 7 rfl rfl (by kernel_rfl) : x.eval (.tmp 7) = .slice A0 l0.length c0)
      have HCx := Kd.C_below hr0 (chain q0 (drew_chain hR))
      clear hd hs
      refine wpOp_plain rfl rfl ?_
      go_simp
      refine (C1.out _ HCx).mono ?_
      rintro e w1 ⟨⟨v, rfl, hv⟩, hb⟩
      exact ⟨_, rfl, hv, hb⟩
    · intro x wx hR hd hs
      have e2 := ev_of (hs 2 (by kernel_rfl) : x.eval (.tmp 2) = .bool pre)
      clear hd hs
      refine wpOp_plain rfl rfl ?_
      go_simp
      exact ⟨_, rfl, rfl, Gr.refl _⟩
    · intro x wx hR hd hs
      obtain ⟨u8, hu8, hp8⟩ : ∃ u, x.eval (.tmp 8) = u ∧ PTs l0 wx u := ⟨_, rfl, hd 1 _ 8 rfl rfl (by kernel_rfl)⟩
      have e8 := ev_of hu8
      have e9 := ev_of (hd 2 _ 9 rfl rfl (by kernel_rfl) : x.eval (.tmp 9) = .bool pre)
      clear hd hs
      refine wpOp_plain rfl rfl ?_
      go_simp
      refine (C2.out _ _ hp8).mono ?_
      rintro e w1 ⟨⟨v, rfl, hv⟩, hb⟩
      exact ⟨_, rfl, hv, hb⟩
    · intro x wx hR hd hs
      have e4 := ev_of (hs 4 (by kernel_rfl) : x.eval (.tmp 4) = .pointer (some ⟨w.heap.size, 0, none⟩))
      obtain ⟨c0, c1, c2, c3, c4⟩ := PV.cells (q2.drew.below hR)
      clear hd hs
      refine wpOp_plain rfl rfl ?_
      go_simp
      exact ⟨_, rfl, rfl, Gr.refl _⟩
    · intro x wx hR hd hs
      have e11 := ev_of (hd 4 _ 11 rfl rfl (by kernel_rfl) : x.eval (.tmp 11) = .agg #[.int .u64 a, .int .u64 b, .int .u64 c, .string p, .string m])
      clear hd hs
      refine wpOp_plain rfl rfl ?_
      go_simp
      refine (version_calls _ _ _ _ _ _).mono ?_
      rintro e w1 ⟨⟨v, rfl, hv⟩, hb⟩
      exact ⟨_, rfl, hv.imp fun _ h => ⟨h.1, h.2.1, Nat.zero_le _⟩, hb⟩
    · intro x wx hR hd hs
      obtain ⟨u10, hu10, hp10⟩ : ∃ u, x.eval (.tmp 10) = u ∧ PGs l0 pre wx u := ⟨_, rfl, hd 3 _ 10 rfl rfl (by kernel_rfl)⟩
      have e10 := ev_of hu10
      obtain ⟨u12, hu12, hp12⟩ : ∃ u, x.eval (.tmp 12) = u ∧ NewVer 0 a b c p m ⟨#[]⟩ wx u := ⟨_, rfl, hd 5 _ 12 rfl rfl (by kernel_rfl)⟩
      have e12 := ev_of hu12
      have HGx := hG.below (chain q0 (drew_chain hR))
      clear hd hs
      refine wpOp_plain rfl rfl ?_
      go_simp
      refine (C3.out _ _ _ HGx hp10 hp12).mono ?_
      rintro e w1 ⟨rfl, hb⟩
      exact ⟨_, rfl, rfl, hb⟩
    · intro x wx hR hd hs
      have e13 := ev_of (hd 6 _ 13 rfl rfl (by kernel_rfl) : x.eval (.tmp 13) = .bool R)
      clear hd hs
      refine wpOp_plain rfl rfl ?_
      go_simp
      exact ⟨_, rfl, rfl, Gr.refl _⟩
  · intro vs wq hl hR hv
    obtain ⟨v0, v1, v2, v3, v4, v5, v6, v7, rfl⟩ := list_8 hl
    obtain rfl : .slice A0 l0.length c0 = v0 := (hv 0 v0 rfl).symm
    have hv1 : PTs l0 wq v1 := hv 1 v1 rfl
    obtain rfl : .bool pre = v2 := (hv 2 v2 rfl).symm
    have hv3 : PGs l0 pre wq v3 := hv 3 v3 rfl
    obtain rfl : .agg #[.int .u64 a, .int .u64 b, .int .u64 c, .string p, .string m] = v4 := (hv 4 v4 rfl).symm
    have hv5 : NewVer 0 a b c p m ⟨#[]⟩ wq v5 := hv 5 v5 rfl
    obtain rfl : .bool R = v6 := (hv 6 v6 rfl).symm
    obtain rfl : .bool R = v7 := (hv 7 v7 rfl).symm
    clear hv hl
    simp only [List.map_cons, List.map_nil, putAll, Act.put, List.setIfInBounds_toArray, List.set_cons_zero, List.set_cons_succ]
    go_wp2
    go_ret
    exact ⟨rfl, chain q0 (drew_chain hR)⟩

instance (x : S54) : Decidable (okT x) := by unfold okT; infer_instance
def impl_TermsHold.f (l0 : List (List S54)) (a b c : Int) (p m : ByteArray) (pre : Bool) : Option Bool :=
  if p.size ≤ 2147483647 ∧ l0.length ≤ 2147483647 ∧ (∀ l ∈ l0, l.length ≤ 2147483647) ∧ (∀ l ∈ l0, ∀ x ∈ l, okT x) then some (l0.any (groupOk pre a b c p)) else none
theorem impl_TermsHold.calls (A0 : Option Addr) (c0 : Nat) (l0 : List (List S54)) (a b c : Int) (p m : ByteArray) (pre : Bool) (r : Bool) (w : World) (hr0 : Kd.C (Kd.slice 54 k54) w A0 l0.length l0) (hc0 : l0.length ≤ c0) (hG : GE w) (h : impl_TermsHold.f l0 a b c p m pre = some r) :
    Calls Tryd.prog 70 #[.slice A0 l0.length c0, .agg #[.int .u64 a, .int .u64 b, .int .u64 c, .string p, .string m], .bool pre] w fun e w' => e = .returned (.bool r) ∧ Below w.heap.size w w' := by
  unfold impl_TermsHold.f at h
  split at h
  · rename_i hh
    obtain rfl := Option.some.inj h
    exact termshold_calls A0 c0 l0 a b c p m pre hh.1 w hG hr0 hc0 hh.2.1 hh.2.2.1 hh.2.2.2
  · cases h
end Go.Proofs.YtgenbmhmcnaiiaaDoor.H
