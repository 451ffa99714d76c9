/- Texts of this claim, joined. -/
import Derived.Test.YtgenbmhmcnaiiaaDoorHaCutNKS
import Derived.Test.YtgenbmhmcnaiiaaDoorHaMetaKS
import Derived.Test.YtgenbmhmcnaiiaaDoorHaVCmpKS
import Derived.Test.YtgenbmhmcnaiiaaDoorHaNumKS
/- semver.StrictNewVersion over a text of three numbers with dots, with a hyphen and a text or without, with a plus sign and a text or without. -/
namespace Go.Proofs.YtgenbmhmcnaiiaaDoor.H
open Go.RowKit Go.Proofs.YtgenbmhmcnaiiaaDoorW.PrintWords
set_option linter.unusedVariables false
set_option linter.unusedSimpArgs false

/-- A row of texts that the call owns: its block. -/
def Rw (w : World) (g : Nat) (xs : List ByteArray) : Prop := ∃ cur, w.heap[g]? = some (.cells cur 9 (0, 0)) ∧ ∀ (j : Nat) (x : ByteArray), xs[j]? = some x → cur[j]? = some (.string x)
theorem Rw.cell {w : World} {g : Nat} {xs : List ByteArray} (h : Rw w g xs) (j : Nat) (x : ByteArray) (hx : xs[j]? = some x) : w.cell? ⟨g, j, none⟩ = some (.string x) := by
  obtain ⟨cur, hb, hc⟩ := h
  exact (blk_cell hb j).trans (hc j x hx)
theorem Rw.frozen {w : World} {g : Nat} {xs : List ByteArray} (h : Rw w g xs) (j : Nat) : w.frozen? ⟨g, j, none⟩ = false := by
  obtain ⟨cur, hb, hc⟩ := h
  exact blk_frozen hb j
theorem Rw.lt {w : World} {g : Nat} {xs : List ByteArray} (h : Rw w g xs) : g < w.heap.size := by
  obtain ⟨cur, hb, hc⟩ := h
  exact blk_lt hb
theorem Rw.below {w w' : World} {g : Nat} {xs : List ByteArray} (h : Rw w g xs) (hb : Below w.heap.size w w') : Rw w' g xs := by
  obtain ⟨cur, h1, h2⟩ := h
  exact ⟨cur, (hb.block _ (blk_lt h1)).trans h1, h2⟩
theorem Rw.far {w : World} {g g' j : Nat} {v : Value} {xs : List ByteArray} (h : Rw w g xs) (hne : g ≠ g') : Rw (w.setCell ⟨g', j, none⟩ v) g xs := by
  obtain ⟨cur, h1, h2⟩ := h
  exact ⟨cur, (Below.heap_setCell w ⟨g', j, none⟩ v g hne).trans h1, h2⟩
theorem Rw.put2 {w : World} {g : Nat} {x y z : ByteArray} (q : ByteArray) (h : Rw w g [x, y, z]) : Rw (w.setCell ⟨g, 2, none⟩ (.string q)) g [x, y, q] := by
  obtain ⟨cur, h1, h2⟩ := h
  refine ⟨_, blk_set h1 2 (.string q), fun j p hj => ?_⟩
  have k0 := h2 0 x rfl
  have k1 := h2 1 y rfl
  have k2 := h2 2 z rfl
  have hl : 2 < cur.size := (Array.getElem?_eq_some_iff.1 k2).1
  match j, hj with
  | 0, hj =>
    obtain rfl := Option.some.inj hj
    rw [Array.getElem?_setIfInBounds_ne (by decide)]
    exact k0
  | 1, hj =>
    obtain rfl := Option.some.inj hj
    rw [Array.getElem?_setIfInBounds_ne (by decide)]
    exact k1
  | 2, hj =>
    obtain rfl := Option.some.inj hj
    rw [Array.getElem?_setIfInBounds_self, if_pos hl]
theorem Rw.of {w : World} {base : Nat} {v : Value} {xs : List ByteArray} (hn : xs ≠ []) (h : Kd.R Kd.string 9 w base (fun _ => True) v xs) : ∃ g c, v = .slice (some ⟨g, 0, none⟩) xs.length c ∧ base ≤ g ∧ Rw w g xs := by
  obtain ⟨A, c, e, _, hC⟩ := Kd.R_reads h
  obtain ⟨inner, ho⟩ := Kd.R_own h
  subst e
  obtain ⟨ad, ha, hc⟩ := hC.2.2 (List.length_pos_iff.2 hn)
  subst ha
  have hown : (Value.slice (some ad) xs.length c).ownBlock = some ad.block := rfl
  obtain ⟨cur, hb⟩ := own_typed ho _ hown
  have hbase := own_base ho _ hown
  have hz : ad = ⟨ad.block, 0, none⟩ := by
    rcases ho.2 with ⟨h1, _⟩ | ⟨g, cap, cu, h1, _⟩
    · cases h1
    · simp only [Value.slice.injEq, Option.some.injEq] at h1
      rw [h1.1]
  refine ⟨ad.block, c, by rw [← hz], hbase, cur, hb, fun j x hx => ?_⟩
  obtain ⟨cs, h1, h2, h3⟩ := hc j x hx
  have h4 : cs = [.string x] := h2
  subst h4
  have h5 := h3 0 (.string x) rfl
  rw [← blk_cell hb j, ← h5, hz]
  congr 1
  have : j * Kd.string.sz + 0 = j := by show j * 1 + 0 = j; omega
  rw [this]
  unfold Addr.add
  by_cases hj : j = 0
  · simp [hj]
  · simp [hj]
def numOk (x : ByteArray) : Prop := only x numB = true ∧ 0 < x.size ∧ ¬ (1 < x.size ∧ headIs x = true)
theorem head_no {x : ByteArray} (h : numOk x) (h1 : 1 < x.size) (hs : 0 < x.size) : ((((x[0]'hs).toNat : Int)) == 48) = false := by
  obtain ⟨_, _, h3⟩ := h
  rw [beq_eq_false_iff_ne]
  intro e
  apply h3
  refine ⟨h1, ?_⟩
  unfold headIs
  have hx0 : x.data.toList.head? = some (x[0]'hs) := by
    rw [List.head?_eq_getElem?, Array.getElem?_toList]
    exact Array.getElem?_eq_getElem hs
  rw [hx0]
  have : (x[0]'hs).toNat = 48 := by omega
  have h48 : x[0]'hs = 48 := UInt8.toNat_inj.1 (by rw [this]; rfl)
  rw [h48]
  rfl

set_option maxRecDepth 100000 in
set_option maxHeartbeats 8000000 in
theorem strict_meta (s : ByteArray) (w : World) (hs0 : 0 < s.size) (hs1 : s.size ≤ 256) (x y z : ByteArray) (hsp : (partsN 46 2 s.data.toList).map ba = [x, y, z]) (hzs : z.size ≤ 2147483647) (z1 mt : ByteArray) (hP : 43 ∈ z.data.toList) (hsP : (partsN 43 1 z.data.toList).map ba = [z1, mt]) (hz1 : z1.size ≤ 2147483647) (hmt : mt.size ≤ 2147483647) (t5 : TypeId) (p5 : Value) (hG5 : G5 w t5 p5) (hM : ((parts 46 mt.data.toList).map ba).all metaPart = false) :
    Calls Tryd.prog 95 #[.string s] w fun e w' => (∃ te pe, e = .returned (.tuple #[.pointer none, .iface te pe])) ∧ Below w.heap.size w w' := by
  have hu49 := Tryd.underlying49
  have hu79 := Tryd.underlying79
  have hu88 := Tryd.underlying88
  have hu9 := Tryd.underlying9
  have q0 : ((s.size : Int) == 0) = false := by rw [beq_eq_false_iff_ne]; omega
  have q1 : decide ((s.size : Int) > 256) = false := decide_eq_false (by omega)
  have S1 := Lib.hid (fun W => (hsp ▸ splitN_any 46 2 (by omega) s (by omega) W : Calls Tryd.prog 134 #[.string s, .string ⟨#[46]⟩, .int .i64 3] W fun e w' => ∃ v, e = .returned v ∧ Kd.R Kd.string 9 w' W.heap.size (fun _ => True) v [x, y, z] ∧ Below W.heap.size W w'))
  have D1 := Lib.hid (fun W => (decide_eq_true hP ▸ contains_any 43 z hzs W : Calls Tryd.prog 135 #[.string z, .string ⟨#[43]⟩] W fun e w' => e = .returned (.bool true) ∧ Below W.heap.size W w'))
  have S2 := Lib.hid (fun W => (hsP ▸ splitN_any 43 1 (by omega) z hzs W : Calls Tryd.prog 134 #[.string z, .string ⟨#[43]⟩, .int .i64 2] W fun e w' => ∃ v, e = .returned v ∧ Kd.R Kd.string 9 w' W.heap.size (fun _ => True) v [z1, mt] ∧ Below W.heap.size W w'))
  have M0 := fun W h => metadata_calls mt hmt t5 p5 W h
  rw [hM] at M0
  have M1 := Lib.hid (fun W h => (show Calls Tryd.prog 136 #[.string mt] W fun e w' => e = .returned (.iface t5 p5) ∧ Below W.heap.size W w' from M0 W h))
  have H5 := Lib.hid hG5
  clear hsp hP hsP hM hG5 M0
  go_enter Tryd.func95, Tryd.ntmps95
  go_wp2_with (first | (go_at_call 134; refine (S1.out _).mono ?_; rintro e w1 ⟨v1, rfl, hR, hb⟩; clear S1; obtain ⟨g, cg, rfl, hg0, R1⟩ := Rw.of (by simp) hR; have B1 := Lib.hid hb; have W1 : Hid (Rw (w1.alloc (.cells #[.int .u64 0, .int .u64 0, .int .u64 0, .string (⟨#[]⟩ : ByteArray), .string (⟨#[]⟩ : ByteArray), .string s] 88)) g [x, y, z]) := Lib.hid (R1.below (below_new _ _)); have K1 : Hid ((w1.alloc (.cells #[.int .u64 0, .int .u64 0, .int .u64 0, .string (⟨#[]⟩ : ByteArray), .string (⟨#[]⟩ : ByteArray), .string s] 88)).heap[w1.heap.size]? = some (.cells #[.int .u64 0, .int .u64 0, .int .u64 0, .string (⟨#[]⟩ : ByteArray), .string (⟨#[]⟩ : ByteArray), .string s] 88 (0, 0))) := Lib.hid (heap_alloc_new _ _); have T1 : Hid (Below w.heap.size w (w1.alloc (.cells #[.int .u64 0, .int .u64 0, .int .u64 0, .string (⟨#[]⟩ : ByteArray), .string (⟨#[]⟩ : ByteArray), .string s] 88))) := Lib.hid (chain hb (below_new _ _)); have Gn : Hid (g ≠ w1.heap.size) := Lib.hid (Nat.ne_of_lt R1.lt); have r0 := Rw.cell W1.out 0 x rfl; have r1 := Rw.cell W1.out 1 y rfl; have r2 := Rw.cell W1.out 2 z rfl; clear hR hb R1) | (go_at_call 135; refine (D1.out _).mono ?_; rintro e w2 ⟨rfl, hb⟩; clear D1 r0 r1 r2; have W2 := Lib.hid (Rw.below W1.out hb); have K2 := Lib.hid ((hb.block _ (blk_lt K1.out)).trans K1.out); have T2 := Lib.hid (chain T1.out hb); have r0 := Rw.cell W2.out 0 x rfl; have r1 := Rw.cell W2.out 1 y rfl; have r2 := Rw.cell W2.out 2 z rfl; have k0 := (blk_cell K2.out 0).trans rfl; have fk0 := blk_frozen K2.out 0; have k1 := (blk_cell K2.out 1).trans rfl; have fk1 := blk_frozen K2.out 1; have k2 := (blk_cell K2.out 2).trans rfl; have fk2 := blk_frozen K2.out 2; have k3 := (blk_cell K2.out 3).trans rfl; have fk3 := blk_frozen K2.out 3; have k4 := (blk_cell K2.out 4).trans rfl; have fk4 := blk_frozen K2.out 4; have k5 := (blk_cell K2.out 5).trans rfl; have fk5 := blk_frozen K2.out 5; clear hb) | (go_at_call 134; refine (S2.out _).mono ?_; rintro e w3 ⟨v3, rfl, hR, hb⟩; clear S2 r0 r1 r2 k0 fk0 k1 fk1 k2 fk2 k3 fk3 k4 fk4 k5 fk5; obtain ⟨g2, cg2, rfl, hg3, RR⟩ := Rw.of (by simp) hR; have W3 := Lib.hid (Rw.below W2.out hb); have K3 := Lib.hid ((hb.block _ (blk_lt K2.out)).trans K2.out); have T3 := Lib.hid (chain T2.out hb); have W3b : Hid (Rw ((w3.setCell ⟨w1.heap.size, 4, none⟩ (.string mt)).setCell ⟨g, 2, none⟩ (.string z1)) g [x, y, z1]) := Lib.hid (Rw.put2 z1 (Rw.far W3.out Gn.out)); have K3b : Hid (((w3.setCell ⟨w1.heap.size, 4, none⟩ (.string mt)).setCell ⟨g, 2, none⟩ (.string z1)).heap[w1.heap.size]? = some (.cells #[.int .u64 0, .int .u64 0, .int .u64 0, .string (⟨#[]⟩ : ByteArray), .string mt, .string s] 88 (0, 0))) := Lib.hid ((Below.heap_setCell (w3.setCell ⟨w1.heap.size, 4, none⟩ (.string mt)) ⟨g, 2, none⟩ _ w1.heap.size (Ne.symm Gn.out)).trans (blk_put K3.out 4 _ rfl)); have T3b : Hid (Below w.heap.size w ((w3.setCell ⟨w1.heap.size, 4, none⟩ (.string mt)).setCell ⟨g, 2, none⟩ (.string z1))) := Lib.hid (below_set (below_set T3.out B1.out.size) hg0); have r0 := Rw.cell W3.out 0 x rfl; have r1 := Rw.cell W3.out 1 y rfl; have r2 := Rw.cell W3.out 2 z rfl; have u0 := Rw.cell RR 0 z1 rfl; have u1 := Rw.cell RR 1 mt rfl; have fr := Rw.frozen W3.out 2; have k0 := (blk_cell K3.out 0).trans rfl; have fk0 := blk_frozen K3.out 0; have k1 := (blk_cell K3.out 1).trans rfl; have fk1 := blk_frozen K3.out 1; have k2 := (blk_cell K3.out 2).trans rfl; have fk2 := blk_frozen K3.out 2; have k3 := (blk_cell K3.out 3).trans rfl; have fk3 := blk_frozen K3.out 3; have k4 := (blk_cell K3.out 4).trans rfl; have fk4 := blk_frozen K3.out 4; have k5 := (blk_cell K3.out 5).trans rfl; have fk5 := blk_frozen K3.out 5; clear hR hb RR) | (go_at_call 136; refine (M1.out _ (H5.out.below T3b.out)).mono ?_; rintro e w4 ⟨rfl, hb⟩; clear M1 r0 r1 r2 k0 fk0 k1 fk1 k2 fk2 k3 fk3 k4 fk4 k5 fk5 u0 u1 fr; have W4 := Lib.hid (Rw.below W3b.out hb); have K4 := Lib.hid ((hb.block _ (blk_lt K3b.out)).trans K3b.out); have T4 := Lib.hid (chain T3b.out hb); have r0 := Rw.cell W4.out 0 x rfl; have r1 := Rw.cell W4.out 1 y rfl; have r2 := Rw.cell W4.out 2 z1 rfl; have k0 := (blk_cell K4.out 0).trans rfl; have fk0 := blk_frozen K4.out 0; have k1 := (blk_cell K4.out 1).trans rfl; have fk1 := blk_frozen K4.out 1; have k2 := (blk_cell K4.out 2).trans rfl; have fk2 := blk_frozen K4.out 2; have k3 := (blk_cell K4.out 3).trans rfl; have fk3 := blk_frozen K4.out 3; have k4 := (blk_cell K4.out 4).trans rfl; have fk4 := blk_frozen K4.out 4; have k5 := (blk_cell K4.out 5).trans rfl; have fk5 := blk_frozen K4.out 5; clear hb))
  go_ret2
  exact ⟨⟨_, _, rfl⟩, T4.out⟩

set_option maxRecDepth 100000 in
set_option maxHeartbeats 8000000 in
theorem strict_pre1 (s : ByteArray) (w : World) (hs0 : 0 < s.size) (hs1 : s.size ≤ 256) (x y z : ByteArray) (hsp : (partsN 46 2 s.data.toList).map ba = [x, y, z]) (hzs : z.size ≤ 2147483647) (z1 mt : ByteArray) (hP : 43 ∈ z.data.toList) (hsP : (partsN 43 1 z.data.toList).map ba = [z1, mt]) (hz1 : z1.size ≤ 2147483647) (hmt : mt.size ≤ 2147483647) (t5 : TypeId) (p5 : Value) (hG5 : G5 w t5 p5) (hM : ((parts 46 mt.data.toList).map ba).all metaPart = true) (z2 pr : ByteArray) (hH : 45 ∈ z1.data.toList) (hsH : (partsN 45 1 z1.data.toList).map ba = [z2, pr]) (hpr : pr.size ≤ 2147483647) (t3 : TypeId) (p3 : Value) (t4 : TypeId) (p4 : Value) (hGV : GV w t3 p3 t4 p4) (hE : preErr ((parts 46 pr.data.toList).map ba) ≠ 0) :
    Calls Tryd.prog 95 #[.string s] w fun e w' => (∃ te pe, e = .returned (.tuple #[.pointer none, .iface te pe])) ∧ Below w.heap.size w w' := by
  have hu49 := Tryd.underlying49
  have hu79 := Tryd.underlying79
  have hu88 := Tryd.underlying88
  have hu9 := Tryd.underlying9
  have q0 : ((s.size : Int) == 0) = false := by rw [beq_eq_false_iff_ne]; omega
  have q1 : decide ((s.size : Int) > 256) = false := decide_eq_false (by omega)
  have S1 := Lib.hid (fun W => (hsp ▸ splitN_any 46 2 (by omega) s (by omega) W : Calls Tryd.prog 134 #[.string s, .string ⟨#[46]⟩, .int .i64 3] W fun e w' => ∃ v, e = .returned v ∧ Kd.R Kd.string 9 w' W.heap.size (fun _ => True) v [x, y, z] ∧ Below W.heap.size W w'))
  have D1 := Lib.hid (fun W => (decide_eq_true hP ▸ contains_any 43 z hzs W : Calls Tryd.prog 135 #[.string z, .string ⟨#[43]⟩] W fun e w' => e = .returned (.bool true) ∧ Below W.heap.size W w'))
  have S2 := Lib.hid (fun W => (hsP ▸ splitN_any 43 1 (by omega) z hzs W : Calls Tryd.prog 134 #[.string z, .string ⟨#[43]⟩, .int .i64 2] W fun e w' => ∃ v, e = .returned v ∧ Kd.R Kd.string 9 w' W.heap.size (fun _ => True) v [z1, mt] ∧ Below W.heap.size W w'))
  have M0 := fun W h => metadata_calls mt hmt t5 p5 W h
  rw [hM] at M0
  have M1 := Lib.hid (fun W h => (show Calls Tryd.prog 136 #[.string mt] W fun e w' => e = .returned .nilIface ∧ Below W.heap.size W w' from M0 W h))
  have H5 := Lib.hid hG5
  have D2 := Lib.hid (fun W => (decide_eq_true hH ▸ contains_any 45 z1 hz1 W : Calls Tryd.prog 135 #[.string z1, .string ⟨#[45]⟩] W fun e w' => e = .returned (.bool true) ∧ Below W.heap.size W w'))
  have S3 := Lib.hid (fun W => (hsH ▸ splitN_any 45 1 (by omega) z1 hz1 W : Calls Tryd.prog 134 #[.string z1, .string ⟨#[45]⟩, .int .i64 2] W fun e w' => ∃ v, e = .returned v ∧ Kd.R Kd.string 9 w' W.heap.size (fun _ => True) v [z2, pr] ∧ Below W.heap.size W w'))
  have V0 := fun W h => validate_calls pr hpr t3 p3 t4 p4 W h
  obtain ⟨te, pe, hte⟩ : ∃ te pe, errVal (preErr ((parts 46 pr.data.toList).map ba)) (.iface t3 p3) (.iface t4 p4) = .iface te pe := by
    unfold errVal
    rw [if_neg hE]
    split
    · exact ⟨_, _, rfl⟩
    · exact ⟨_, _, rfl⟩
  rw [hte] at V0
  have V1 := Lib.hid (fun W h => (show Calls Tryd.prog 119 #[.string pr] W fun e w' => e = .returned (.iface te pe) ∧ Below W.heap.size W w' from V0 W h))
  have HV := Lib.hid hGV
  clear hsp hP hsP hM hG5 hH hsH hGV hE hte M0 V0
  go_enter Tryd.func95, Tryd.ntmps95
  go_wp2_with (first | (go_at_call 134; refine (S1.out _).mono ?_; rintro e w1 ⟨v1, rfl, hR, hb⟩; clear S1; obtain ⟨g, cg, rfl, hg0, R1⟩ := Rw.of (by simp) hR; have B1 := Lib.hid hb; have W1 : Hid (Rw (w1.alloc (.cells #[.int .u64 0, .int .u64 0, .int .u64 0, .string (⟨#[]⟩ : ByteArray), .string (⟨#[]⟩ : ByteArray), .string s] 88)) g [x, y, z]) := Lib.hid (R1.below (below_new _ _)); have K1 : Hid ((w1.alloc (.cells #[.int .u64 0, .int .u64 0, .int .u64 0, .string (⟨#[]⟩ : ByteArray), .string (⟨#[]⟩ : ByteArray), .string s] 88)).heap[w1.heap.size]? = some (.cells #[.int .u64 0, .int .u64 0, .int .u64 0, .string (⟨#[]⟩ : ByteArray), .string (⟨#[]⟩ : ByteArray), .string s] 88 (0, 0))) := Lib.hid (heap_alloc_new _ _); have T1 : Hid (Below w.heap.size w (w1.alloc (.cells #[.int .u64 0, .int .u64 0, .int .u64 0, .string (⟨#[]⟩ : ByteArray), .string (⟨#[]⟩ : ByteArray), .string s] 88))) := Lib.hid (chain hb (below_new _ _)); have Gn : Hid (g ≠ w1.heap.size) := Lib.hid (Nat.ne_of_lt R1.lt); have r0 := Rw.cell W1.out 0 x rfl; have r1 := Rw.cell W1.out 1 y rfl; have r2 := Rw.cell W1.out 2 z rfl; clear hR hb R1) | (go_at_call 135; refine (D1.out _).mono ?_; rintro e w2 ⟨rfl, hb⟩; clear D1 r0 r1 r2; have W2 := Lib.hid (Rw.below W1.out hb); have K2 := Lib.hid ((hb.block _ (blk_lt K1.out)).trans K1.out); have T2 := Lib.hid (chain T1.out hb); have r0 := Rw.cell W2.out 0 x rfl; have r1 := Rw.cell W2.out 1 y rfl; have r2 := Rw.cell W2.out 2 z rfl; have k0 := (blk_cell K2.out 0).trans rfl; have fk0 := blk_frozen K2.out 0; have k1 := (blk_cell K2.out 1).trans rfl; have fk1 := blk_frozen K2.out 1; have k2 := (blk_cell K2.out 2).trans rfl; have fk2 := blk_frozen K2.out 2; have k3 := (blk_cell K2.out 3).trans rfl; have fk3 := blk_frozen K2.out 3; have k4 := (blk_cell K2.out 4).trans rfl; have fk4 := blk_frozen K2.out 4; have k5 := (blk_cell K2.out 5).trans rfl; have fk5 := blk_frozen K2.out 5; clear hb) | (go_at_call 134; refine (S2.out _).mono ?_; rintro e w3 ⟨v3, rfl, hR, hb⟩; clear S2 r0 r1 r2 k0 fk0 k1 fk1 k2 fk2 k3 fk3 k4 fk4 k5 fk5; obtain ⟨g2, cg2, rfl, hg3, RR⟩ := Rw.of (by simp) hR; have W3 := Lib.hid (Rw.below W2.out hb); have K3 := Lib.hid ((hb.block _ (blk_lt K2.out)).trans K2.out); have T3 := Lib.hid (chain T2.out hb); have W3b : Hid (Rw ((w3.setCell ⟨w1.heap.size, 4, none⟩ (.string mt)).setCell ⟨g, 2, none⟩ (.string z1)) g [x, y, z1]) := Lib.hid (Rw.put2 z1 (Rw.far W3.out Gn.out)); have K3b : Hid (((w3.setCell ⟨w1.heap.size, 4, none⟩ (.string mt)).setCell ⟨g, 2, none⟩ (.string z1)).heap[w1.heap.size]? = some (.cells #[.int .u64 0, .int .u64 0, .int .u64 0, .string (⟨#[]⟩ : ByteArray), .string mt, .string s] 88 (0, 0))) := Lib.hid ((Below.heap_setCell (w3.setCell ⟨w1.heap.size, 4, none⟩ (.string mt)) ⟨g, 2, none⟩ _ w1.heap.size (Ne.symm Gn.out)).trans (blk_put K3.out 4 _ rfl)); have T3b : Hid (Below w.heap.size w ((w3.setCell ⟨w1.heap.size, 4, none⟩ (.string mt)).setCell ⟨g, 2, none⟩ (.string z1))) := Lib.hid (below_set (below_set T3.out B1.out.size) hg0); have r0 := Rw.cell W3.out 0 x rfl; have r1 := Rw.cell W3.out 1 y rfl; have r2 := Rw.cell W3.out 2 z rfl; have u0 := Rw.cell RR 0 z1 rfl; have u1 := Rw.cell RR 1 mt rfl; have fr := Rw.frozen W3.out 2; have k0 := (blk_cell K3.out 0).trans rfl; have fk0 := blk_frozen K3.out 0; have k1 := (blk_cell K3.out 1).trans rfl; have fk1 := blk_frozen K3.out 1; have k2 := (blk_cell K3.out 2).trans rfl; have fk2 := blk_frozen K3.out 2; have k3 := (blk_cell K3.out 3).trans rfl; have fk3 := blk_frozen K3.out 3; have k4 := (blk_cell K3.out 4).trans rfl; have fk4 := blk_frozen K3.out 4; have k5 := (blk_cell K3.out 5).trans rfl; have fk5 := blk_frozen K3.out 5; clear hR hb RR) | (go_at_call 136; refine (M1.out _ (H5.out.below T3b.out)).mono ?_; rintro e w4 ⟨rfl, hb⟩; clear M1 r0 r1 r2 k0 fk0 k1 fk1 k2 fk2 k3 fk3 k4 fk4 k5 fk5 u0 u1 fr; have W4 := Lib.hid (Rw.below W3b.out hb); have K4 := Lib.hid ((hb.block _ (blk_lt K3b.out)).trans K3b.out); have T4 := Lib.hid (chain T3b.out hb); have r0 := Rw.cell W4.out 0 x rfl; have r1 := Rw.cell W4.out 1 y rfl; have r2 := Rw.cell W4.out 2 z1 rfl; have k0 := (blk_cell K4.out 0).trans rfl; have fk0 := blk_frozen K4.out 0; have k1 := (blk_cell K4.out 1).trans rfl; have fk1 := blk_frozen K4.out 1; have k2 := (blk_cell K4.out 2).trans rfl; have fk2 := blk_frozen K4.out 2; have k3 := (blk_cell K4.out 3).trans rfl; have fk3 := blk_frozen K4.out 3; have k4 := (blk_cell K4.out 4).trans rfl; have fk4 := blk_frozen K4.out 4; have k5 := (blk_cell K4.out 5).trans rfl; have fk5 := blk_frozen K4.out 5; clear hb) | (go_at_call 135; refine (D2.out _).mono ?_; rintro e w5 ⟨rfl, hb⟩; clear D2 r0 r1 r2 k0 fk0 k1 fk1 k2 fk2 k3 fk3 k4 fk4 k5 fk5; have W5 := Lib.hid (Rw.below W4.out hb); have K5 := Lib.hid ((hb.block _ (blk_lt K4.out)).trans K4.out); have T5 := Lib.hid (chain T4.out hb); have r0 := Rw.cell W5.out 0 x rfl; have r1 := Rw.cell W5.out 1 y rfl; have r2 := Rw.cell W5.out 2 z1 rfl; have k0 := (blk_cell K5.out 0).trans rfl; have fk0 := blk_frozen K5.out 0; have k1 := (blk_cell K5.out 1).trans rfl; have fk1 := blk_frozen K5.out 1; have k2 := (blk_cell K5.out 2).trans rfl; have fk2 := blk_frozen K5.out 2; have k3 := (blk_cell K5.out 3).trans rfl; have fk3 := blk_frozen K5.out 3; have k4 := (blk_cell K5.out 4).trans rfl; have fk4 := blk_frozen K5.out 4; have k5 := (blk_cell K5.out 5).trans rfl; have fk5 := blk_frozen K5.out 5; clear hb) | (go_at_call 134; refine (S3.out _).mono ?_; rintro e w6 ⟨v6, rfl, hR, hb⟩; clear S3 r0 r1 r2 k0 fk0 k1 fk1 k2 fk2 k3 fk3 k4 fk4 k5 fk5; obtain ⟨g3, cg3, rfl, hg6, RR⟩ := Rw.of (by simp) hR; have W6 := Lib.hid (Rw.below W5.out hb); have K6 := Lib.hid ((hb.block _ (blk_lt K5.out)).trans K5.out); have T6 := Lib.hid (chain T5.out hb); have W6b : Hid (Rw ((w6.setCell ⟨w1.heap.size, 3, none⟩ (.string pr)).setCell ⟨g, 2, none⟩ (.string z2)) g [x, y, z2]) := Lib.hid (Rw.put2 z2 (Rw.far W6.out Gn.out)); have K6b : Hid (((w6.setCell ⟨w1.heap.size, 3, none⟩ (.string pr)).setCell ⟨g, 2, none⟩ (.string z2)).heap[w1.heap.size]? = some (.cells #[.int .u64 0, .int .u64 0, .int .u64 0, .string pr, .string mt, .string s] 88 (0, 0))) := Lib.hid ((Below.heap_setCell (w6.setCell ⟨w1.heap.size, 3, none⟩ (.string pr)) ⟨g, 2, none⟩ _ w1.heap.size (Ne.symm Gn.out)).trans (blk_put K6.out 3 _ rfl)); have T6b : Hid (Below w.heap.size w ((w6.setCell ⟨w1.heap.size, 3, none⟩ (.string pr)).setCell ⟨g, 2, none⟩ (.string z2))) := Lib.hid (below_set (below_set T6.out B1.out.size) hg0); have r0 := Rw.cell W6.out 0 x rfl; have r1 := Rw.cell W6.out 1 y rfl; have r2 := Rw.cell W6.out 2 z1 rfl; have u0 := Rw.cell RR 0 z2 rfl; have u1 := Rw.cell RR 1 pr rfl; have fr := Rw.frozen W6.out 2; have k0 := (blk_cell K6.out 0).trans rfl; have fk0 := blk_frozen K6.out 0; have k1 := (blk_cell K6.out 1).trans rfl; have fk1 := blk_frozen K6.out 1; have k2 := (blk_cell K6.out 2).trans rfl; have fk2 := blk_frozen K6.out 2; have k3 := (blk_cell K6.out 3).trans rfl; have fk3 := blk_frozen K6.out 3; have k4 := (blk_cell K6.out 4).trans rfl; have fk4 := blk_frozen K6.out 4; have k5 := (blk_cell K6.out 5).trans rfl; have fk5 := blk_frozen K6.out 5; clear hR hb RR) | (go_at_call 119; refine (V1.out _ (HV.out.below T6b.out)).mono ?_; rintro e w7 ⟨rfl, hb⟩; clear V1 r0 r1 r2 k0 fk0 k1 fk1 k2 fk2 k3 fk3 k4 fk4 k5 fk5 u0 u1 fr; have W7 := Lib.hid (Rw.below W6b.out hb); have K7 := Lib.hid ((hb.block _ (blk_lt K6b.out)).trans K6b.out); have T7 := Lib.hid (chain T6b.out hb); have r0 := Rw.cell W7.out 0 x rfl; have r1 := Rw.cell W7.out 1 y rfl; have r2 := Rw.cell W7.out 2 z2 rfl; have k0 := (blk_cell K7.out 0).trans rfl; have fk0 := blk_frozen K7.out 0; have k1 := (blk_cell K7.out 1).trans rfl; have fk1 := blk_frozen K7.out 1; have k2 := (blk_cell K7.out 2).trans rfl; have fk2 := blk_frozen K7.out 2; have k3 := (blk_cell K7.out 3).trans rfl; have fk3 := blk_frozen K7.out 3; have k4 := (blk_cell K7.out 4).trans rfl; have fk4 := blk_frozen K7.out 4; have k5 := (blk_cell K7.out 5).trans rfl; have fk5 := blk_frozen K7.out 5; clear hb))
  go_ret2
  exact ⟨⟨_, _, rfl⟩, T7.out⟩

set_option maxRecDepth 100000 in
set_option maxHeartbeats 8000000 in
theorem strict_pre0 (s : ByteArray) (w : World) (hs0 : 0 < s.size) (hs1 : s.size ≤ 256) (x y z : ByteArray) (hsp : (partsN 46 2 s.data.toList).map ba = [x, y, z]) (hzs : z.size ≤ 2147483647) (hP : 43 ∉ z.data.toList) (z2 pr : ByteArray) (hH : 45 ∈ z.data.toList) (hsH : (partsN 45 1 z.data.toList).map ba = [z2, pr]) (hpr : pr.size ≤ 2147483647) (t3 : TypeId) (p3 : Value) (t4 : TypeId) (p4 : Value) (hGV : GV w t3 p3 t4 p4) (hE : preErr ((parts 46 pr.data.toList).map ba) ≠ 0) :
    Calls Tryd.prog 95 #[.string s] w fun e w' => (∃ te pe, e = .returned (.tuple #[.pointer none, .iface te pe])) ∧ Below w.heap.size w w' := by
  have hu49 := Tryd.underlying49
  have hu79 := Tryd.underlying79
  have hu88 := Tryd.underlying88
  have hu9 := Tryd.underlying9
  have q0 : ((s.size : Int) == 0) = false := by rw [beq_eq_false_iff_ne]; omega
  have q1 : decide ((s.size : Int) > 256) = false := decide_eq_false (by omega)
  have S1 := Lib.hid (fun W => (hsp ▸ splitN_any 46 2 (by omega) s (by omega) W : Calls Tryd.prog 134 #[.string s, .string ⟨#[46]⟩, .int .i64 3] W fun e w' => ∃ v, e = .returned v ∧ Kd.R Kd.string 9 w' W.heap.size (fun _ => True) v [x, y, z] ∧ Below W.heap.size W w'))
  have D1 := Lib.hid (fun W => (decide_eq_false hP ▸ contains_any 43 z hzs W : Calls Tryd.prog 135 #[.string z, .string ⟨#[43]⟩] W fun e w' => e = .returned (.bool false) ∧ Below W.heap.size W w'))
  have D2 := Lib.hid (fun W => (decide_eq_true hH ▸ contains_any 45 z hzs W : Calls Tryd.prog 135 #[.string z, .string ⟨#[45]⟩] W fun e w' => e = .returned (.bool true) ∧ Below W.heap.size W w'))
  have S3 := Lib.hid (fun W => (hsH ▸ splitN_any 45 1 (by omega) z hzs W : Calls Tryd.prog 134 #[.string z, .string ⟨#[45]⟩, .int .i64 2] W fun e w' => ∃ v, e = .returned v ∧ Kd.R Kd.string 9 w' W.heap.size (fun _ => True) v [z2, pr] ∧ Below W.heap.size W w'))
  have V0 := fun W h => validate_calls pr hpr t3 p3 t4 p4 W h
  obtain ⟨te, pe, hte⟩ : ∃ te pe, errVal (preErr ((parts 46 pr.data.toList).map ba)) (.iface t3 p3) (.iface t4 p4) = .iface te pe := by
    unfold errVal
    rw [if_neg hE]
    split
    · exact ⟨_, _, rfl⟩
    · exact ⟨_, _, rfl⟩
  rw [hte] at V0
  have V1 := Lib.hid (fun W h => (show Calls Tryd.prog 119 #[.string pr] W fun e w' => e = .returned (.iface te pe) ∧ Below W.heap.size W w' from V0 W h))
  have HV := Lib.hid hGV
  clear hsp hP hH hsH hGV hE hte V0
  go_enter Tryd.func95, Tryd.ntmps95
  go_wp2_with (first | (go_at_call 134; refine (S1.out _).mono ?_; rintro e w1 ⟨v1, rfl, hR, hb⟩; clear S1; obtain ⟨g, cg, rfl, hg0, R1⟩ := Rw.of (by simp) hR; have B1 := Lib.hid hb; have W1 : Hid (Rw (w1.alloc (.cells #[.int .u64 0, .int .u64 0, .int .u64 0, .string (⟨#[]⟩ : ByteArray), .string (⟨#[]⟩ : ByteArray), .string s] 88)) g [x, y, z]) := Lib.hid (R1.below (below_new _ _)); have K1 : Hid ((w1.alloc (.cells #[.int .u64 0, .int .u64 0, .int .u64 0, .string (⟨#[]⟩ : ByteArray), .string (⟨#[]⟩ : ByteArray), .string s] 88)).heap[w1.heap.size]? = some (.cells #[.int .u64 0, .int .u64 0, .int .u64 0, .string (⟨#[]⟩ : ByteArray), .string (⟨#[]⟩ : ByteArray), .string s] 88 (0, 0))) := Lib.hid (heap_alloc_new _ _); have T1 : Hid (Below w.heap.size w (w1.alloc (.cells #[.int .u64 0, .int .u64 0, .int .u64 0, .string (⟨#[]⟩ : ByteArray), .string (⟨#[]⟩ : ByteArray), .string s] 88))) := Lib.hid (chain hb (below_new _ _)); have Gn : Hid (g ≠ w1.heap.size) := Lib.hid (Nat.ne_of_lt R1.lt); have r0 := Rw.cell W1.out 0 x rfl; have r1 := Rw.cell W1.out 1 y rfl; have r2 := Rw.cell W1.out 2 z rfl; clear hR hb R1) | (go_at_call 135; refine (D1.out _).mono ?_; rintro e w2 ⟨rfl, hb⟩; clear D1 r0 r1 r2; have W2 := Lib.hid (Rw.below W1.out hb); have K2 := Lib.hid ((hb.block _ (blk_lt K1.out)).trans K1.out); have T2 := Lib.hid (chain T1.out hb); have r0 := Rw.cell W2.out 0 x rfl; have r1 := Rw.cell W2.out 1 y rfl; have r2 := Rw.cell W2.out 2 z rfl; have k0 := (blk_cell K2.out 0).trans rfl; have fk0 := blk_frozen K2.out 0; have k1 := (blk_cell K2.out 1).trans rfl; have fk1 := blk_frozen K2.out 1; have k2 := (blk_cell K2.out 2).trans rfl; have fk2 := blk_frozen K2.out 2; have k3 := (blk_cell K2.out 3).trans rfl; have fk3 := blk_frozen K2.out 3; have k4 := (blk_cell K2.out 4).trans rfl; have fk4 := blk_frozen K2.out 4; have k5 := (blk_cell K2.out 5).trans rfl; have fk5 := blk_frozen K2.out 5; clear hb) | (go_at_call 135; refine (D2.out _).mono ?_; rintro e w3 ⟨rfl, hb⟩; clear D2 r0 r1 r2 k0 fk0 k1 fk1 k2 fk2 k3 fk3 k4 fk4 k5 fk5; have W3 := Lib.hid (Rw.below W2.out hb); have K3 := Lib.hid ((hb.block _ (blk_lt K2.out)).trans K2.out); have T3 := Lib.hid (chain T2.out hb); have r0 := Rw.cell W3.out 0 x rfl; have r1 := Rw.cell W3.out 1 y rfl; have r2 := Rw.cell W3.out 2 z rfl; have k0 := (blk_cell K3.out 0).trans rfl; have fk0 := blk_frozen K3.out 0; have k1 := (blk_cell K3.out 1).trans rfl; have fk1 := blk_frozen K3.out 1; have k2 := (blk_cell K3.out 2).trans rfl; have fk2 := blk_frozen K3.out 2; have k3 := (blk_cell K3.out 3).trans rfl; have fk3 := blk_frozen K3.out 3; have k4 := (blk_cell K3.out 4).trans rfl; have fk4 := blk_frozen K3.out 4; have k5 := (blk_cell K3.out 5).trans rfl; have fk5 := blk_frozen K3.out 5; clear hb) | (go_at_call 134; refine (S3.out _).mono ?_; rintro e w4 ⟨v4, rfl, hR, hb⟩; clear S3 r0 r1 r2 k0 fk0 k1 fk1 k2 fk2 k3 fk3 k4 fk4 k5 fk5; obtain ⟨g3, cg3, rfl, hg4, RR⟩ := Rw.of (by simp) hR; have W4 := Lib.hid (Rw.below W3.out hb); have K4 := Lib.hid ((hb.block _ (blk_lt K3.out)).trans K3.out); have T4 := Lib.hid (chain T3.out hb); have W4b : Hid (Rw ((w4.setCell ⟨w1.heap.size, 3, none⟩ (.string pr)).setCell ⟨g, 2, none⟩ (.string z2)) g [x, y, z2]) := Lib.hid (Rw.put2 z2 (Rw.far W4.out Gn.out)); have K4b : Hid (((w4.setCell ⟨w1.heap.size, 3, none⟩ (.string pr)).setCell ⟨g, 2, none⟩ (.string z2)).heap[w1.heap.size]? = some (.cells #[.int .u64 0, .int .u64 0, .int .u64 0, .string pr, .string (⟨#[]⟩ : ByteArray), .string s] 88 (0, 0))) := Lib.hid ((Below.heap_setCell (w4.setCell ⟨w1.heap.size, 3, none⟩ (.string pr)) ⟨g, 2, none⟩ _ w1.heap.size (Ne.symm Gn.out)).trans (blk_put K4.out 3 _ rfl)); have T4b : Hid (Below w.heap.size w ((w4.setCell ⟨w1.heap.size, 3, none⟩ (.string pr)).setCell ⟨g, 2, none⟩ (.string z2))) := Lib.hid (below_set (below_set T4.out B1.out.size) hg0); have r0 := Rw.cell W4.out 0 x rfl; have r1 := Rw.cell W4.out 1 y rfl; have r2 := Rw.cell W4.out 2 z rfl; have u0 := Rw.cell RR 0 z2 rfl; have u1 := Rw.cell RR 1 pr rfl; have fr := Rw.frozen W4.out 2; have k0 := (blk_cell K4.out 0).trans rfl; have fk0 := blk_frozen K4.out 0; have k1 := (blk_cell K4.out 1).trans rfl; have fk1 := blk_frozen K4.out 1; have k2 := (blk_cell K4.out 2).trans rfl; have fk2 := blk_frozen K4.out 2; have k3 := (blk_cell K4.out 3).trans rfl; have fk3 := blk_frozen K4.out 3; have k4 := (blk_cell K4.out 4).trans rfl; have fk4 := blk_frozen K4.out 4; have k5 := (blk_cell K4.out 5).trans rfl; have fk5 := blk_frozen K4.out 5; clear hR hb RR) | (go_at_call 119; refine (V1.out _ (HV.out.below T4b.out)).mono ?_; rintro e w5 ⟨rfl, hb⟩; clear V1 r0 r1 r2 k0 fk0 k1 fk1 k2 fk2 k3 fk3 k4 fk4 k5 fk5 u0 u1 fr; have W5 := Lib.hid (Rw.below W4b.out hb); have K5 := Lib.hid ((hb.block _ (blk_lt K4b.out)).trans K4b.out); have T5 := Lib.hid (chain T4b.out hb); have r0 := Rw.cell W5.out 0 x rfl; have r1 := Rw.cell W5.out 1 y rfl; have r2 := Rw.cell W5.out 2 z2 rfl; have k0 := (blk_cell K5.out 0).trans rfl; have fk0 := blk_frozen K5.out 0; have k1 := (blk_cell K5.out 1).trans rfl; have fk1 := blk_frozen K5.out 1; have k2 := (blk_cell K5.out 2).trans rfl; have fk2 := blk_frozen K5.out 2; have k3 := (blk_cell K5.out 3).trans rfl; have fk3 := blk_frozen K5.out 3; have k4 := (blk_cell K5.out 4).trans rfl; have fk4 := blk_frozen K5.out 4; have k5 := (blk_cell K5.out 5).trans rfl; have fk5 := blk_frozen K5.out 5; clear hb))
  go_ret2
  exact ⟨⟨_, _, rfl⟩, T5.out⟩

end Go.Proofs.YtgenbmhmcnaiiaaDoor.H

/- semver.StrictNewVersion over a text of three numbers with dots, with a hyphen and a text or without, with a plus sign and a text or without. -/
namespace Go.Proofs.YtgenbmhmcnaiiaaDoor.H
open Go.RowKit Go.Proofs.YtgenbmhmcnaiiaaDoorW.PrintWords
set_option linter.unusedVariables false
set_option linter.unusedSimpArgs false

set_option maxRecDepth 100000 in
set_option maxHeartbeats 8000000 in
theorem strict_full (s : ByteArray) (w : World) (hs0 : 0 < s.size) (hs1 : s.size ≤ 256) (x y z : ByteArray) (hsp : (partsN 46 2 s.data.toList).map ba = [x, y, z]) (hzs : z.size ≤ 2147483647) (z1 mt : ByteArray) (hP : 43 ∈ z.data.toList) (hsP : (partsN 43 1 z.data.toList).map ba = [z1, mt]) (hz1 : z1.size ≤ 2147483647) (hmt : mt.size ≤ 2147483647) (t5 : TypeId) (p5 : Value) (hG5 : G5 w t5 p5) (hM : ((parts 46 mt.data.toList).map ba).all metaPart = true) (z2 pr : ByteArray) (hH : 45 ∈ z1.data.toList) (hsH : (partsN 45 1 z1.data.toList).map ba = [z2, pr]) (hpr : pr.size ≤ 2147483647) (t3 : TypeId) (p3 : Value) (t4 : TypeId) (p4 : Value) (hGV : GV w t3 p3 t4 p4) (hE : preErr ((parts 46 pr.data.toList).map ba) = 0) (a b c : Nat) (hx : numOk x) (hy : numOk y) (hz : numOk z2) (hxs : x.size ≤ 2147483647) (hys : y.size ≤ 2147483647) (hqs : z2.size ≤ 2147483647) (ha : pu x = some a) (hb : pu y = some b) (hc : pu z2 = some c) :
    Calls Tryd.prog 95 #[.string s] w fun e w' => (∃ g, e = .returned (.tuple #[.pointer (some ⟨g, 0, none⟩), .nilIface]) ∧ Ver w' g a b c pr mt s) ∧ Below w.heap.size w w' := by
  have hu49 := Tryd.underlying49
  have hu79 := Tryd.underlying79
  have hu88 := Tryd.underlying88
  have hu9 := Tryd.underlying9
  have q0 : ((s.size : Int) == 0) = false := by rw [beq_eq_false_iff_ne]; omega
  have q1 : decide ((s.size : Int) > 256) = false := decide_eq_false (by omega)
  have S1 := Lib.hid (fun W => (hsp ▸ splitN_any 46 2 (by omega) s (by omega) W : Calls Tryd.prog 134 #[.string s, .string ⟨#[46]⟩, .int .i64 3] W fun e w' => ∃ v, e = .returned v ∧ Kd.R Kd.string 9 w' W.heap.size (fun _ => True) v [x, y, z] ∧ Below W.heap.size W w'))
  have D1 := Lib.hid (fun W => (decide_eq_true hP ▸ contains_any 43 z hzs W : Calls Tryd.prog 135 #[.string z, .string ⟨#[43]⟩] W fun e w' => e = .returned (.bool true) ∧ Below W.heap.size W w'))
  have S2 := Lib.hid (fun W => (hsP ▸ splitN_any 43 1 (by omega) z hzs W : Calls Tryd.prog 134 #[.string z, .string ⟨#[43]⟩, .int .i64 2] W fun e w' => ∃ v, e = .returned v ∧ Kd.R Kd.string 9 w' W.heap.size (fun _ => True) v [z1, mt] ∧ Below W.heap.size W w'))
  have M0 := fun W h => metadata_calls mt hmt t5 p5 W h
  rw [hM] at M0
  have M1 := Lib.hid (fun W h => (show Calls Tryd.prog 136 #[.string mt] W fun e w' => e = .returned .nilIface ∧ Below W.heap.size W w' from M0 W h))
  have H5 := Lib.hid hG5
  have D2 := Lib.hid (fun W => (decide_eq_true hH ▸ contains_any 45 z1 hz1 W : Calls Tryd.prog 135 #[.string z1, .string ⟨#[45]⟩] W fun e w' => e = .returned (.bool true) ∧ Below W.heap.size W w'))
  have S3 := Lib.hid (fun W => (hsH ▸ splitN_any 45 1 (by omega) z1 hz1 W : Calls Tryd.prog 134 #[.string z1, .string ⟨#[45]⟩, .int .i64 2] W fun e w' => ∃ v, e = .returned v ∧ Kd.R Kd.string 9 w' W.heap.size (fun _ => True) v [z2, pr] ∧ Below W.heap.size W w'))
  have V0 := fun W h => validate_calls pr hpr t3 p3 t4 p4 W h
  rw [hE] at V0
  have V1 := Lib.hid (fun W h => (show Calls Tryd.prog 119 #[.string pr] W fun e w' => e = .returned .nilIface ∧ Below W.heap.size W w' from V0 W h))
  have HV := Lib.hid hGV
  have Oa := Lib.hid (fun W => (hx.1 ▸ only_calls x numB W : Calls Tryd.prog 137 #[.string x, .string ⟨#[48, 49, 50, 51, 52, 53, 54, 55, 56, 57]⟩] W fun e w' => e = .returned (.bool true) ∧ Below W.heap.size W w'))
  have Ua := Lib.hid (fun W => pu_ok x hxs a ha W)
  have Na := Lib.hid hx
  have Ob := Lib.hid (fun W => (hy.1 ▸ only_calls y numB W : Calls Tryd.prog 137 #[.string y, .string ⟨#[48, 49, 50, 51, 52, 53, 54, 55, 56, 57]⟩] W fun e w' => e = .returned (.bool true) ∧ Below W.heap.size W w'))
  have Ub := Lib.hid (fun W => pu_ok y hys b hb W)
  have Nb := Lib.hid hy
  have Oc := Lib.hid (fun W => (hz.1 ▸ only_calls z2 numB W : Calls Tryd.prog 137 #[.string z2, .string ⟨#[48, 49, 50, 51, 52, 53, 54, 55, 56, 57]⟩] W fun e w' => e = .returned (.bool true) ∧ Below W.heap.size W w'))
  have Uc := Lib.hid (fun W => pu_ok z2 hqs c hc W)
  have Nc := Lib.hid hz
  clear hsp hP hsP hM hG5 hH hsH hGV hE hx hy hz ha hb hc M0 V0
  go_enter Tryd.func95, Tryd.ntmps95
  go_wp2_with (first | (go_at_call 134; refine (S1.out _).mono ?_; rintro e w1 ⟨v1, rfl, hR, hb⟩; clear S1; obtain ⟨g, cg, rfl, hg0, R1⟩ := Rw.of (by simp) hR; have B1 := Lib.hid hb; have W1 : Hid (Rw (w1.alloc (.cells #[.int .u64 0, .int .u64 0, .int .u64 0, .string (⟨#[]⟩ : ByteArray), .string (⟨#[]⟩ : ByteArray), .string s] 88)) g [x, y, z]) := Lib.hid (R1.below (below_new _ _)); have K1 : Hid ((w1.alloc (.cells #[.int .u64 0, .int .u64 0, .int .u64 0, .string (⟨#[]⟩ : ByteArray), .string (⟨#[]⟩ : ByteArray), .string s] 88)).heap[w1.heap.size]? = some (.cells #[.int .u64 0, .int .u64 0, .int .u64 0, .string (⟨#[]⟩ : ByteArray), .string (⟨#[]⟩ : ByteArray), .string s] 88 (0, 0))) := Lib.hid (heap_alloc_new _ _); have T1 : Hid (Below w.heap.size w (w1.alloc (.cells #[.int .u64 0, .int .u64 0, .int .u64 0, .string (⟨#[]⟩ : ByteArray), .string (⟨#[]⟩ : ByteArray), .string s] 88))) := Lib.hid (chain hb (below_new _ _)); have Gn : Hid (g ≠ w1.heap.size) := Lib.hid (Nat.ne_of_lt R1.lt); have r0 := Rw.cell W1.out 0 x rfl; have r1 := Rw.cell W1.out 1 y rfl; have r2 := Rw.cell W1.out 2 z rfl; clear hR hb R1) | (go_at_call 135; refine (D1.out _).mono ?_; rintro e w2 ⟨rfl, hb⟩; clear D1 r0 r1 r2; have W2 := Lib.hid (Rw.below W1.out hb); have K2 := Lib.hid ((hb.block _ (blk_lt K1.out)).trans K1.out); have T2 := Lib.hid (chain T1.out hb); have r0 := Rw.cell W2.out 0 x rfl; have r1 := Rw.cell W2.out 1 y rfl; have r2 := Rw.cell W2.out 2 z rfl; have k0 := (blk_cell K2.out 0).trans rfl; have fk0 := blk_frozen K2.out 0; have k1 := (blk_cell K2.out 1).trans rfl; have fk1 := blk_frozen K2.out 1; have k2 := (blk_cell K2.out 2).trans rfl; have fk2 := blk_frozen K2.out 2; have k3 := (blk_cell K2.out 3).trans rfl; have fk3 := blk_frozen K2.out 3; have k4 := (blk_cell K2.out 4).trans rfl; have fk4 := blk_frozen K2.out 4; have k5 := (blk_cell K2.out 5).trans rfl; have fk5 := blk_frozen K2.out 5; clear hb) | (go_at_call 134; refine (S2.out _).mono ?_; rintro e w3 ⟨v3, rfl, hR, hb⟩; clear S2 r0 r1 r2 k0 fk0 k1 fk1 k2 fk2 k3 fk3 k4 fk4 k5 fk5; obtain ⟨g2, cg2, rfl, hg3, RR⟩ := Rw.of (by simp) hR; have W3 := Lib.hid (Rw.below W2.out hb); have K3 := Lib.hid ((hb.block _ (blk_lt K2.out)).trans K2.out); have T3 := Lib.hid (chain T2.out hb); have W3b : Hid (Rw ((w3.setCell ⟨w1.heap.size, 4, none⟩ (.string mt)).setCell ⟨g, 2, none⟩ (.string z1)) g [x, y, z1]) := Lib.hid (Rw.put2 z1 (Rw.far W3.out Gn.out)); have K3b : Hid (((w3.setCell ⟨w1.heap.size, 4, none⟩ (.string mt)).setCell ⟨g, 2, none⟩ (.string z1)).heap[w1.heap.size]? = some (.cells #[.int .u64 0, .int .u64 0, .int .u64 0, .string (⟨#[]⟩ : ByteArray), .string mt, .string s] 88 (0, 0))) := Lib.hid ((Below.heap_setCell (w3.setCell ⟨w1.heap.size, 4, none⟩ (.string mt)) ⟨g, 2, none⟩ _ w1.heap.size (Ne.symm Gn.out)).trans (blk_put K3.out 4 _ rfl)); have T3b : Hid (Below w.heap.size w ((w3.setCell ⟨w1.heap.size, 4, none⟩ (.string mt)).setCell ⟨g, 2, none⟩ (.string z1))) := Lib.hid (below_set (below_set T3.out B1.out.size) hg0); have r0 := Rw.cell W3.out 0 x rfl; have r1 := Rw.cell W3.out 1 y rfl; have r2 := Rw.cell W3.out 2 z rfl; have u0 := Rw.cell RR 0 z1 rfl; have u1 := Rw.cell RR 1 mt rfl; have fr := Rw.frozen W3.out 2; have k0 := (blk_cell K3.out 0).trans rfl; have fk0 := blk_frozen K3.out 0; have k1 := (blk_cell K3.out 1).trans rfl; have fk1 := blk_frozen K3.out 1; have k2 := (blk_cell K3.out 2).trans rfl; have fk2 := blk_frozen K3.out 2; have k3 := (blk_cell K3.out 3).trans rfl; have fk3 := blk_frozen K3.out 3; have k4 := (blk_cell K3.out 4).trans rfl; have fk4 := blk_frozen K3.out 4; have k5 := (blk_cell K3.out 5).trans rfl; have fk5 := blk_frozen K3.out 5; clear hR hb RR) | (go_at_call 136; refine (M1.out _ (H5.out.below T3b.out)).mono ?_; rintro e w4 ⟨rfl, hb⟩; clear M1 r0 r1 r2 k0 fk0 k1 fk1 k2 fk2 k3 fk3 k4 fk4 k5 fk5 u0 u1 fr; have W4 := Lib.hid (Rw.below W3b.out hb); have K4 := Lib.hid ((hb.block _ (blk_lt K3b.out)).trans K3b.out); have T4 := Lib.hid (chain T3b.out hb); have r0 := Rw.cell W4.out 0 x rfl; have r1 := Rw.cell W4.out 1 y rfl; have r2 := Rw.cell W4.out 2 z1 rfl; have k0 := (blk_cell K4.out 0).trans rfl; have fk0 := blk_frozen K4.out 0; have k1 := (blk_cell K4.out 1).trans rfl; have fk1 := blk_frozen K4.out 1; have k2 := (blk_cell K4.out 2).trans rfl; have fk2 := blk_frozen K4.out 2; have k3 := (blk_cell K4.out 3).trans rfl; have fk3 := blk_frozen K4.out 3; have k4 := (blk_cell K4.out 4).trans rfl; have fk4 := blk_frozen K4.out 4; have k5 := (blk_cell K4.out 5).trans rfl; have fk5 := blk_frozen K4.out 5; clear hb) | (go_at_call 135; refine (D2.out _).mono ?_; rintro e w5 ⟨rfl, hb⟩; clear D2 r0 r1 r2 k0 fk0 k1 fk1 k2 fk2 k3 fk3 k4 fk4 k5 fk5; have W5 := Lib.hid (Rw.below W4.out hb); have K5 := Lib.hid ((hb.block _ (blk_lt K4.out)).trans K4.out); have T5 := Lib.hid (chain T4.out hb); have r0 := Rw.cell W5.out 0 x rfl; have r1 := Rw.cell W5.out 1 y rfl; have r2 := Rw.cell W5.out 2 z1 rfl; have k0 := (blk_cell K5.out 0).trans rfl; have fk0 := blk_frozen K5.out 0; have k1 := (blk_cell K5.out 1).trans rfl; have fk1 := blk_frozen K5.out 1; have k2 := (blk_cell K5.out 2).trans rfl; have fk2 := blk_frozen K5.out 2; have k3 := (blk_cell K5.out 3).trans rfl; have fk3 := blk_frozen K5.out 3; have k4 := (blk_cell K5.out 4).trans rfl; have fk4 := blk_frozen K5.out 4; have k5 := (blk_cell K5.out 5).trans rfl; have fk5 := blk_frozen K5.out 5; clear hb) | (go_at_call 134; refine (S3.out _).mono ?_; rintro e w6 ⟨v6, rfl, hR, hb⟩; clear S3 r0 r1 r2 k0 fk0 k1 fk1 k2 fk2 k3 fk3 k4 fk4 k5 fk5; obtain ⟨g3, cg3, rfl, hg6, RR⟩ := Rw.of (by simp) hR; have W6 := Lib.hid (Rw.below W5.out hb); have K6 := Lib.hid ((hb.block _ (blk_lt K5.out)).trans K5.out); have T6 := Lib.hid (chain T5.out hb); have W6b : Hid (Rw ((w6.setCell ⟨w1.heap.size, 3, none⟩ (.string pr)).setCell ⟨g, 2, none⟩ (.string z2)) g [x, y, z2]) := Lib.hid (Rw.put2 z2 (Rw.far W6.out Gn.out)); have K6b : Hid (((w6.setCell ⟨w1.heap.size, 3, none⟩ (.string pr)).setCell ⟨g, 2, none⟩ (.string z2)).heap[w1.heap.size]? = some (.cells #[.int .u64 0, .int .u64 0, .int .u64 0, .string pr, .string mt, .string s] 88 (0, 0))) := Lib.hid ((Below.heap_setCell (w6.setCell ⟨w1.heap.size, 3, none⟩ (.string pr)) ⟨g, 2, none⟩ _ w1.heap.size (Ne.symm Gn.out)).trans (blk_put K6.out 3 _ rfl)); have T6b : Hid (Below w.heap.size w ((w6.setCell ⟨w1.heap.size, 3, none⟩ (.string pr)).setCell ⟨g, 2, none⟩ (.string z2))) := Lib.hid (below_set (below_set T6.out B1.out.size) hg0); have r0 := Rw.cell W6.out 0 x rfl; have r1 := Rw.cell W6.out 1 y rfl; have r2 := Rw.cell W6.out 2 z1 rfl; have u0 := Rw.cell RR 0 z2 rfl; have u1 := Rw.cell RR 1 pr rfl; have fr := Rw.frozen W6.out 2; have k0 := (blk_cell K6.out 0).trans rfl; have fk0 := blk_frozen K6.out 0; have k1 := (blk_cell K6.out 1).trans rfl; have fk1 := blk_frozen K6.out 1; have k2 := (blk_cell K6.out 2).trans rfl; have fk2 := blk_frozen K6.out 2; have k3 := (blk_cell K6.out 3).trans rfl; have fk3 := blk_frozen K6.out 3; have k4 := (blk_cell K6.out 4).trans rfl; have fk4 := blk_frozen K6.out 4; have k5 := (blk_cell K6.out 5).trans rfl; have fk5 := blk_frozen K6.out 5; clear hR hb RR) | (go_at_call 119; refine (V1.out _ (HV.out.below T6b.out)).mono ?_; rintro e w7 ⟨rfl, hb⟩; clear V1 r0 r1 r2 k0 fk0 k1 fk1 k2 fk2 k3 fk3 k4 fk4 k5 fk5 u0 u1 fr; have W7 := Lib.hid (Rw.below W6b.out hb); have K7 := Lib.hid ((hb.block _ (blk_lt K6b.out)).trans K6b.out); have T7 := Lib.hid (chain T6b.out hb); have r0 := Rw.cell W7.out 0 x rfl; have r1 := Rw.cell W7.out 1 y rfl; have r2 := Rw.cell W7.out 2 z2 rfl; have k0 := (blk_cell K7.out 0).trans rfl; have fk0 := blk_frozen K7.out 0; have k1 := (blk_cell K7.out 1).trans rfl; have fk1 := blk_frozen K7.out 1; have k2 := (blk_cell K7.out 2).trans rfl; have fk2 := blk_frozen K7.out 2; have k3 := (blk_cell K7.out 3).trans rfl; have fk3 := blk_frozen K7.out 3; have k4 := (blk_cell K7.out 4).trans rfl; have fk4 := blk_frozen K7.out 4; have k5 := (blk_cell K7.out 5).trans rfl; have fk5 := blk_frozen K7.out 5; clear hb))
  clear r0 r1 r2 k0 fk0 k1 fk1 k2 fk2 k3 fk3 k4 fk4 k5 fk5
  go_loopg [86] 4 (fun kq v86 w' => ∃ (x86 : Int), v86 = .int .i64 x86 ∧ Aside0 (x86 + kq = 4) ∧ Aside0 (0 ≤ x86 ∧ x86 ≤ 3) ∧ Aside0 (kq ≤ 4) ∧ Aside0 (Below w7.heap.size w7 w'))
  case atStart => exact ⟨0, rfl, ⟨by omega⟩, ⟨by omega⟩, ⟨Nat.le_refl _⟩, ⟨Below.refl _ _⟩⟩
  case round =>
    obtain ⟨x86, rfl, HA, HX, HK, HL⟩ := hrel
    cases gk with
    | zero => exact absurd HA.out (by have := HX.out; omega)
    | succ k1 =>
      rename World => wo
      have RL := Lib.hid (Rw.below W7.out HL.out)
      have r0 := Rw.cell RL.out 0 x rfl
      have r1 := Rw.cell RL.out 1 y rfl
      have r2 := Rw.cell RL.out 2 z2 rfl
      have hx86 : x86 = 0 ∨ x86 = 1 ∨ x86 = 2 ∨ x86 = 3 := by have := HX.out; omega
      rcases hx86 with rfl | rfl | rfl | rfl
      · have hsz : 0 < x.size := Na.out.2.1
        by_cases h1 : 1 < x.size
        · have g1 : decide ((x.size : Int) > 1) = true := decide_eq_true (by omega)
          have hq := head_no Na.out h1 hsz
          go_wp2_with (go_at_call 137; refine (Oa.out _).mono ?_; rintro e w9 ⟨rfl, hb⟩; have L9 := Aside0.mk (chain HL.out hb); clear hb r0 r1 r2)
          go_roundg k1
          case measure => have := HK.out; omega
          case rel => exact ⟨1, rfl, ⟨by have := HA.out; omega⟩, ⟨by omega⟩, ⟨by have := HK.out; omega⟩, L9⟩
        · have g1 : decide ((x.size : Int) > 1) = false := decide_eq_false (by omega)
          skip
          go_wp2_with (go_at_call 137; refine (Oa.out _).mono ?_; rintro e w9 ⟨rfl, hb⟩; have L9 := Aside0.mk (chain HL.out hb); clear hb r0 r1 r2)
          go_roundg k1
          case measure => have := HK.out; omega
          case rel => exact ⟨1, rfl, ⟨by have := HA.out; omega⟩, ⟨by omega⟩, ⟨by have := HK.out; omega⟩, L9⟩
      · have hsz : 0 < y.size := Nb.out.2.1
        by_cases h1 : 1 < y.size
        · have g1 : decide ((y.size : Int) > 1) = true := decide_eq_true (by omega)
          have hq := head_no Nb.out h1 hsz
          go_wp2_with (go_at_call 137; refine (Ob.out _).mono ?_; rintro e w9 ⟨rfl, hb⟩; have L9 := Aside0.mk (chain HL.out hb); clear hb r0 r1 r2)
          go_roundg k1
          case measure => have := HK.out; omega
          case rel => exact ⟨2, rfl, ⟨by have := HA.out; omega⟩, ⟨by omega⟩, ⟨by have := HK.out; omega⟩, L9⟩
        · have g1 : decide ((y.size : Int) > 1) = false := decide_eq_false (by omega)
          skip
          go_wp2_with (go_at_call 137; refine (Ob.out _).mono ?_; rintro e w9 ⟨rfl, hb⟩; have L9 := Aside0.mk (chain HL.out hb); clear hb r0 r1 r2)
          go_roundg k1
          case measure => have := HK.out; omega
          case rel => exact ⟨2, rfl, ⟨by have := HA.out; omega⟩, ⟨by omega⟩, ⟨by have := HK.out; omega⟩, L9⟩
      · have hsz : 0 < z2.size := Nc.out.2.1
        by_cases h1 : 1 < z2.size
        · have g1 : decide ((z2.size : Int) > 1) = true := decide_eq_true (by omega)
          have hq := head_no Nc.out h1 hsz
          go_wp2_with (go_at_call 137; refine (Oc.out _).mono ?_; rintro e w9 ⟨rfl, hb⟩; have L9 := Aside0.mk (chain HL.out hb); clear hb r0 r1 r2)
          go_roundg k1
          case measure => have := HK.out; omega
          case rel => exact ⟨3, rfl, ⟨by have := HA.out; omega⟩, ⟨by omega⟩, ⟨by have := HK.out; omega⟩, L9⟩
        · have g1 : decide ((z2.size : Int) > 1) = false := decide_eq_false (by omega)
          skip
          go_wp2_with (go_at_call 137; refine (Oc.out _).mono ?_; rintro e w9 ⟨rfl, hb⟩; have L9 := Aside0.mk (chain HL.out hb); clear hb r0 r1 r2)
          go_roundg k1
          case measure => have := HK.out; omega
          case rel => exact ⟨3, rfl, ⟨by have := HA.out; omega⟩, ⟨by omega⟩, ⟨by have := HK.out; omega⟩, L9⟩
      · have KL := Lib.hid ((HL.out.block _ (blk_lt K7.out)).trans K7.out)
        have TL := Lib.hid (chain T7.out HL.out)
        go_wp2_with (first | (go_at_call 138; refine (Ua.out _).mono ?_; rintro e wa ⟨rfl, hb⟩; clear Ua r0 r1 r2; have Wa := Lib.hid (Rw.below RL.out hb); have Ka := Lib.hid ((hb.block _ (blk_lt KL.out)).trans KL.out); have Ta := Lib.hid (chain TL.out hb); have Was : Hid (Rw (wa.setCell ⟨w1.heap.size, 0, none⟩ (.int .u64 (a : Int))) g [x, y, z2]) := Lib.hid (Rw.far Wa.out Gn.out); have Kas : Hid ((wa.setCell ⟨w1.heap.size, 0, none⟩ (.int .u64 (a : Int))).heap[w1.heap.size]? = some (.cells #[.int .u64 (a : Int), .int .u64 0, .int .u64 0, .string pr, .string mt, .string s] 88 (0, 0))) := Lib.hid (blk_put Ka.out 0 _ rfl); have Tas : Hid (Below w.heap.size w (wa.setCell ⟨w1.heap.size, 0, none⟩ (.int .u64 (a : Int)))) := Lib.hid (below_set Ta.out B1.out.size); have r0 := Rw.cell Wa.out 0 x rfl; have r1 := Rw.cell Wa.out 1 y rfl; have r2 := Rw.cell Wa.out 2 z2 rfl; have k0 := (blk_cell Ka.out 0).trans rfl; have fk0 := blk_frozen Ka.out 0; have k1 := (blk_cell Ka.out 1).trans rfl; have fk1 := blk_frozen Ka.out 1; have k2 := (blk_cell Ka.out 2).trans rfl; have fk2 := blk_frozen Ka.out 2; have k3 := (blk_cell Ka.out 3).trans rfl; have fk3 := blk_frozen Ka.out 3; have k4 := (blk_cell Ka.out 4).trans rfl; have fk4 := blk_frozen Ka.out 4; have k5 := (blk_cell Ka.out 5).trans rfl; have fk5 := blk_frozen Ka.out 5; clear hb) | (go_at_call 138; refine (Ub.out _).mono ?_; rintro e wb ⟨rfl, hb⟩; clear Ub r0 r1 r2 k0 fk0 k1 fk1 k2 fk2 k3 fk3 k4 fk4 k5 fk5; have Wb := Lib.hid (Rw.below Was.out hb); have Kb := Lib.hid ((hb.block _ (blk_lt Kas.out)).trans Kas.out); have Tb := Lib.hid (chain Tas.out hb); have Wbs : Hid (Rw (wb.setCell ⟨w1.heap.size, 1, none⟩ (.int .u64 (b : Int))) g [x, y, z2]) := Lib.hid (Rw.far Wb.out Gn.out); have Kbs : Hid ((wb.setCell ⟨w1.heap.size, 1, none⟩ (.int .u64 (b : Int))).heap[w1.heap.size]? = some (.cells #[.int .u64 (a : Int), .int .u64 (b : Int), .int .u64 0, .string pr, .string mt, .string s] 88 (0, 0))) := Lib.hid (blk_put Kb.out 1 _ rfl); have Tbs : Hid (Below w.heap.size w (wb.setCell ⟨w1.heap.size, 1, none⟩ (.int .u64 (b : Int)))) := Lib.hid (below_set Tb.out B1.out.size); have r0 := Rw.cell Wb.out 0 x rfl; have r1 := Rw.cell Wb.out 1 y rfl; have r2 := Rw.cell Wb.out 2 z2 rfl; have k0 := (blk_cell Kb.out 0).trans rfl; have fk0 := blk_frozen Kb.out 0; have k1 := (blk_cell Kb.out 1).trans rfl; have fk1 := blk_frozen Kb.out 1; have k2 := (blk_cell Kb.out 2).trans rfl; have fk2 := blk_frozen Kb.out 2; have k3 := (blk_cell Kb.out 3).trans rfl; have fk3 := blk_frozen Kb.out 3; have k4 := (blk_cell Kb.out 4).trans rfl; have fk4 := blk_frozen Kb.out 4; have k5 := (blk_cell Kb.out 5).trans rfl; have fk5 := blk_frozen Kb.out 5; clear hb) | (go_at_call 138; refine (Uc.out _).mono ?_; rintro e wc ⟨rfl, hb⟩; clear Uc r0 r1 r2 k0 fk0 k1 fk1 k2 fk2 k3 fk3 k4 fk4 k5 fk5; have Wc := Lib.hid (Rw.below Wbs.out hb); have Kc := Lib.hid ((hb.block _ (blk_lt Kbs.out)).trans Kbs.out); have Tc := Lib.hid (chain Tbs.out hb); have Wcs : Hid (Rw (wc.setCell ⟨w1.heap.size, 2, none⟩ (.int .u64 (c : Int))) g [x, y, z2]) := Lib.hid (Rw.far Wc.out Gn.out); have Kcs : Hid ((wc.setCell ⟨w1.heap.size, 2, none⟩ (.int .u64 (c : Int))).heap[w1.heap.size]? = some (.cells #[.int .u64 (a : Int), .int .u64 (b : Int), .int .u64 (c : Int), .string pr, .string mt, .string s] 88 (0, 0))) := Lib.hid (blk_put Kc.out 2 _ rfl); have Tcs : Hid (Below w.heap.size w (wc.setCell ⟨w1.heap.size, 2, none⟩ (.int .u64 (c : Int)))) := Lib.hid (below_set Tc.out B1.out.size); have r0 := Rw.cell Wc.out 0 x rfl; have r1 := Rw.cell Wc.out 1 y rfl; have r2 := Rw.cell Wc.out 2 z2 rfl; have k0 := (blk_cell Kc.out 0).trans rfl; have fk0 := blk_frozen Kc.out 0; have k1 := (blk_cell Kc.out 1).trans rfl; have fk1 := blk_frozen Kc.out 1; have k2 := (blk_cell Kc.out 2).trans rfl; have fk2 := blk_frozen Kc.out 2; have k3 := (blk_cell Kc.out 3).trans rfl; have fk3 := blk_frozen Kc.out 3; have k4 := (blk_cell Kc.out 4).trans rfl; have fk4 := blk_frozen Kc.out 4; have k5 := (blk_cell Kc.out 5).trans rfl; have fk5 := blk_frozen Kc.out 5; clear hb))
        go_ret2
        exact ⟨⟨_, rfl, Kcs.out⟩, Tcs.out⟩

set_option maxRecDepth 100000 in
set_option maxHeartbeats 8000000 in
theorem strict_hyphen (s : ByteArray) (w : World) (hs0 : 0 < s.size) (hs1 : s.size ≤ 256) (x y z : ByteArray) (hsp : (partsN 46 2 s.data.toList).map ba = [x, y, z]) (hzs : z.size ≤ 2147483647) (hP : 43 ∉ z.data.toList) (z2 pr : ByteArray) (hH : 45 ∈ z.data.toList) (hsH : (partsN 45 1 z.data.toList).map ba = [z2, pr]) (hpr : pr.size ≤ 2147483647) (t3 : TypeId) (p3 : Value) (t4 : TypeId) (p4 : Value) (hGV : GV w t3 p3 t4 p4) (hE : preErr ((parts 46 pr.data.toList).map ba) = 0) (a b c : Nat) (hx : numOk x) (hy : numOk y) (hz : numOk z2) (hxs : x.size ≤ 2147483647) (hys : y.size ≤ 2147483647) (hqs : z2.size ≤ 2147483647) (ha : pu x = some a) (hb : pu y = some b) (hc : pu z2 = some c) :
    Calls Tryd.prog 95 #[.string s] w fun e w' => (∃ g, e = .returned (.tuple #[.pointer (some ⟨g, 0, none⟩), .nilIface]) ∧ Ver w' g a b c pr (⟨#[]⟩ : ByteArray) s) ∧ Below w.heap.size w w' := by
  have hu49 := Tryd.underlying49
  have hu79 := Tryd.underlying79
  have hu88 := Tryd.underlying88
  have hu9 := Tryd.underlying9
  have q0 : ((s.size : Int) == 0) = false := by rw [beq_eq_false_iff_ne]; omega
  have q1 : decide ((s.size : Int) > 256) = false := decide_eq_false (by omega)
  have S1 := Lib.hid (fun W => (hsp ▸ splitN_any 46 2 (by omega) s (by omega) W : Calls Tryd.prog 134 #[.string s, .string ⟨#[46]⟩, .int .i64 3] W fun e w' => ∃ v, e = .returned v ∧ Kd.R Kd.string 9 w' W.heap.size (fun _ => True) v [x, y, z] ∧ Below W.heap.size W w'))
  have D1 := Lib.hid (fun W => (decide_eq_false hP ▸ contains_any 43 z hzs W : Calls Tryd.prog 135 #[.string z, .string ⟨#[43]⟩] W fun e w' => e = .returned (.bool false) ∧ Below W.heap.size W w'))
  have D2 := Lib.hid (fun W => (decide_eq_true hH ▸ contains_any 45 z hzs W : Calls Tryd.prog 135 #[.string z, .string ⟨#[45]⟩] W fun e w' => e = .returned (.bool true) ∧ Below W.heap.size W w'))
  have S3 := Lib.hid (fun W => (hsH ▸ splitN_any 45 1 (by omega) z hzs W : Calls Tryd.prog 134 #[.string z, .string ⟨#[45]⟩, .int .i64 2] W fun e w' => ∃ v, e = .returned v ∧ Kd.R Kd.string 9 w' W.heap.size (fun _ => True) v [z2, pr] ∧ Below W.heap.size W w'))
  have V0 := fun W h => validate_calls pr hpr t3 p3 t4 p4 W h
  rw [hE] at V0
  have V1 := Lib.hid (fun W h => (show Calls Tryd.prog 119 #[.string pr] W fun e w' => e = .returned .nilIface ∧ Below W.heap.size W w' from V0 W h))
  have HV := Lib.hid hGV
  have Oa := Lib.hid (fun W => (hx.1 ▸ only_calls x numB W : Calls Tryd.prog 137 #[.string x, .string ⟨#[48, 49, 50, 51, 52, 53, 54, 55, 56, 57]⟩] W fun e w' => e = .returned (.bool true) ∧ Below W.heap.size W w'))
  have Ua := Lib.hid (fun W => pu_ok x hxs a ha W)
  have Na := Lib.hid hx
  have Ob := Lib.hid (fun W => (hy.1 ▸ only_calls y numB W : Calls Tryd.prog 137 #[.string y, .string ⟨#[48, 49, 50, 51, 52, 53, 54, 55, 56, 57]⟩] W fun e w' => e = .returned (.bool true) ∧ Below W.heap.size W w'))
  have Ub := Lib.hid (fun W => pu_ok y hys b hb W)
  have Nb := Lib.hid hy
  have Oc := Lib.hid (fun W => (hz.1 ▸ only_calls z2 numB W : Calls Tryd.prog 137 #[.string z2, .string ⟨#[48, 49, 50, 51, 52, 53, 54, 55, 56, 57]⟩] W fun e w' => e = .returned (.bool true) ∧ Below W.heap.size W w'))
  have Uc := Lib.hid (fun W => pu_ok z2 hqs c hc W)
  have Nc := Lib.hid hz
  clear hsp hP hH hsH hGV hE hx hy hz ha hb hc V0
  go_enter Tryd.func95, Tryd.ntmps95
  go_wp2_with (first | (go_at_call 134; refine (S1.out _).mono ?_; rintro e w1 ⟨v1, rfl, hR, hb⟩; clear S1; obtain ⟨g, cg, rfl, hg0, R1⟩ := Rw.of (by simp) hR; have B1 := Lib.hid hb; have W1 : Hid (Rw (w1.alloc (.cells #[.int .u64 0, .int .u64 0, .int .u64 0, .string (⟨#[]⟩ : ByteArray), .string (⟨#[]⟩ : ByteArray), .string s] 88)) g [x, y, z]) := Lib.hid (R1.below (below_new _ _)); have K1 : Hid ((w1.alloc (.cells #[.int .u64 0, .int .u64 0, .int .u64 0, .string (⟨#[]⟩ : ByteArray), .string (⟨#[]⟩ : ByteArray), .string s] 88)).heap[w1.heap.size]? = some (.cells #[.int .u64 0, .int .u64 0, .int .u64 0, .string (⟨#[]⟩ : ByteArray), .string (⟨#[]⟩ : ByteArray), .string s] 88 (0, 0))) := Lib.hid (heap_alloc_new _ _); have T1 : Hid (Below w.heap.size w (w1.alloc (.cells #[.int .u64 0, .int .u64 0, .int .u64 0, .string (⟨#[]⟩ : ByteArray), .string (⟨#[]⟩ : ByteArray), .string s] 88))) := Lib.hid (chain hb (below_new _ _)); have Gn : Hid (g ≠ w1.heap.size) := Lib.hid (Nat.ne_of_lt R1.lt); have r0 := Rw.cell W1.out 0 x rfl; have r1 := Rw.cell W1.out 1 y rfl; have r2 := Rw.cell W1.out 2 z rfl; clear hR hb R1) | (go_at_call 135; refine (D1.out _).mono ?_; rintro e w2 ⟨rfl, hb⟩; clear D1 r0 r1 r2; have W2 := Lib.hid (Rw.below W1.out hb); have K2 := Lib.hid ((hb.block _ (blk_lt K1.out)).trans K1.out); have T2 := Lib.hid (chain T1.out hb); have r0 := Rw.cell W2.out 0 x rfl; have r1 := Rw.cell W2.out 1 y rfl; have r2 := Rw.cell W2.out 2 z rfl; have k0 := (blk_cell K2.out 0).trans rfl; have fk0 := blk_frozen K2.out 0; have k1 := (blk_cell K2.out 1).trans rfl; have fk1 := blk_frozen K2.out 1; have k2 := (blk_cell K2.out 2).trans rfl; have fk2 := blk_frozen K2.out 2; have k3 := (blk_cell K2.out 3).trans rfl; have fk3 := blk_frozen K2.out 3; have k4 := (blk_cell K2.out 4).trans rfl; have fk4 := blk_frozen K2.out 4; have k5 := (blk_cell K2.out 5).trans rfl; have fk5 := blk_frozen K2.out 5; clear hb) | (go_at_call 135; refine (D2.out _).mono ?_; rintro e w3 ⟨rfl, hb⟩; clear D2 r0 r1 r2 k0 fk0 k1 fk1 k2 fk2 k3 fk3 k4 fk4 k5 fk5; have W3 := Lib.hid (Rw.below W2.out hb); have K3 := Lib.hid ((hb.block _ (blk_lt K2.out)).trans K2.out); have T3 := Lib.hid (chain T2.out hb); have r0 := Rw.cell W3.out 0 x rfl; have r1 := Rw.cell W3.out 1 y rfl; have r2 := Rw.cell W3.out 2 z rfl; have k0 := (blk_cell K3.out 0).trans rfl; have fk0 := blk_frozen K3.out 0; have k1 := (blk_cell K3.out 1).trans rfl; have fk1 := blk_frozen K3.out 1; have k2 := (blk_cell K3.out 2).trans rfl; have fk2 := blk_frozen K3.out 2; have k3 := (blk_cell K3.out 3).trans rfl; have fk3 := blk_frozen K3.out 3; have k4 := (blk_cell K3.out 4).trans rfl; have fk4 := blk_frozen K3.out 4; have k5 := (blk_cell K3.out 5).trans rfl; have fk5 := blk_frozen K3.out 5; clear hb) | (go_at_call 134; refine (S3.out _).mono ?_; rintro e w4 ⟨v4, rfl, hR, hb⟩; clear S3 r0 r1 r2 k0 fk0 k1 fk1 k2 fk2 k3 fk3 k4 fk4 k5 fk5; obtain ⟨g3, cg3, rfl, hg4, RR⟩ := Rw.of (by simp) hR; have W4 := Lib.hid (Rw.below W3.out hb); have K4 := Lib.hid ((hb.block _ (blk_lt K3.out)).trans K3.out); have T4 := Lib.hid (chain T3.out hb); have W4b : Hid (Rw ((w4.setCell ⟨w1.heap.size, 3, none⟩ (.string pr)).setCell ⟨g, 2, none⟩ (.string z2)) g [x, y, z2]) := Lib.hid (Rw.put2 z2 (Rw.far W4.out Gn.out)); have K4b : Hid (((w4.setCell ⟨w1.heap.size, 3, none⟩ (.string pr)).setCell ⟨g, 2, none⟩ (.string z2)).heap[w1.heap.size]? = some (.cells #[.int .u64 0, .int .u64 0, .int .u64 0, .string pr, .string (⟨#[]⟩ : ByteArray), .string s] 88 (0, 0))) := Lib.hid ((Below.heap_setCell (w4.setCell ⟨w1.heap.size, 3, none⟩ (.string pr)) ⟨g, 2, none⟩ _ w1.heap.size (Ne.symm Gn.out)).trans (blk_put K4.out 3 _ rfl)); have T4b : Hid (Below w.heap.size w ((w4.setCell ⟨w1.heap.size, 3, none⟩ (.string pr)).setCell ⟨g, 2, none⟩ (.string z2))) := Lib.hid (below_set (below_set T4.out B1.out.size) hg0); have r0 := Rw.cell W4.out 0 x rfl; have r1 := Rw.cell W4.out 1 y rfl; have r2 := Rw.cell W4.out 2 z rfl; have u0 := Rw.cell RR 0 z2 rfl; have u1 := Rw.cell RR 1 pr rfl; have fr := Rw.frozen W4.out 2; have k0 := (blk_cell K4.out 0).trans rfl; have fk0 := blk_frozen K4.out 0; have k1 := (blk_cell K4.out 1).trans rfl; have fk1 := blk_frozen K4.out 1; have k2 := (blk_cell K4.out 2).trans rfl; have fk2 := blk_frozen K4.out 2; have k3 := (blk_cell K4.out 3).trans rfl; have fk3 := blk_frozen K4.out 3; have k4 := (blk_cell K4.out 4).trans rfl; have fk4 := blk_frozen K4.out 4; have k5 := (blk_cell K4.out 5).trans rfl; have fk5 := blk_frozen K4.out 5; clear hR hb RR) | (go_at_call 119; refine (V1.out _ (HV.out.below T4b.out)).mono ?_; rintro e w5 ⟨rfl, hb⟩; clear V1 r0 r1 r2 k0 fk0 k1 fk1 k2 fk2 k3 fk3 k4 fk4 k5 fk5 u0 u1 fr; have W5 := Lib.hid (Rw.below W4b.out hb); have K5 := Lib.hid ((hb.block _ (blk_lt K4b.out)).trans K4b.out); have T5 := Lib.hid (chain T4b.out hb); have r0 := Rw.cell W5.out 0 x rfl; have r1 := Rw.cell W5.out 1 y rfl; have r2 := Rw.cell W5.out 2 z2 rfl; have k0 := (blk_cell K5.out 0).trans rfl; have fk0 := blk_frozen K5.out 0; have k1 := (blk_cell K5.out 1).trans rfl; have fk1 := blk_frozen K5.out 1; have k2 := (blk_cell K5.out 2).trans rfl; have fk2 := blk_frozen K5.out 2; have k3 := (blk_cell K5.out 3).trans rfl; have fk3 := blk_frozen K5.out 3; have k4 := (blk_cell K5.out 4).trans rfl; have fk4 := blk_frozen K5.out 4; have k5 := (blk_cell K5.out 5).trans rfl; have fk5 := blk_frozen K5.out 5; clear hb))
  clear r0 r1 r2 k0 fk0 k1 fk1 k2 fk2 k3 fk3 k4 fk4 k5 fk5
  go_loopg [86] 4 (fun kq v86 w' => ∃ (x86 : Int), v86 = .int .i64 x86 ∧ Aside0 (x86 + kq = 4) ∧ Aside0 (0 ≤ x86 ∧ x86 ≤ 3) ∧ Aside0 (kq ≤ 4) ∧ Aside0 (Below w5.heap.size w5 w'))
  case atStart => exact ⟨0, rfl, ⟨by omega⟩, ⟨by omega⟩, ⟨Nat.le_refl _⟩, ⟨Below.refl _ _⟩⟩
  case round =>
    obtain ⟨x86, rfl, HA, HX, HK, HL⟩ := hrel
    cases gk with
    | zero => exact absurd HA.out (by have := HX.out; omega)
    | succ k1 =>
      rename World => wo
      have RL := Lib.hid (Rw.below W5.out HL.out)
      have r0 := Rw.cell RL.out 0 x rfl
      have r1 := Rw.cell RL.out 1 y rfl
      have r2 := Rw.cell RL.out 2 z2 rfl
      have hx86 : x86 = 0 ∨ x86 = 1 ∨ x86 = 2 ∨ x86 = 3 := by have := HX.out; omega
      rcases hx86 with rfl | rfl | rfl | rfl
      · have hsz : 0 < x.size := Na.out.2.1
        by_cases h1 : 1 < x.size
        · have g1 : decide ((x.size : Int) > 1) = true := decide_eq_true (by omega)
          have hq := head_no Na.out h1 hsz
          go_wp2_with (go_at_call 137; refine (Oa.out _).mono ?_; rintro e w9 ⟨rfl, hb⟩; have L9 := Aside0.mk (chain HL.out hb); clear hb r0 r1 r2)
          go_roundg k1
          case measure => have := HK.out; omega
          case rel => exact ⟨1, rfl, ⟨by have := HA.out; omega⟩, ⟨by omega⟩, ⟨by have := HK.out; omega⟩, L9⟩
        · have g1 : decide ((x.size : Int) > 1) = false := decide_eq_false (by omega)
          skip
          go_wp2_with (go_at_call 137; refine (Oa.out _).mono ?_; rintro e w9 ⟨rfl, hb⟩; have L9 := Aside0.mk (chain HL.out hb); clear hb r0 r1 r2)
          go_roundg k1
          case measure => have := HK.out; omega
          case rel => exact ⟨1, rfl, ⟨by have := HA.out; omega⟩, ⟨by omega⟩, ⟨by have := HK.out; omega⟩, L9⟩
      · have hsz : 0 < y.size := Nb.out.2.1
        by_cases h1 : 1 < y.size
        · have g1 : decide ((y.size : Int) > 1) = true := decide_eq_true (by omega)
          have hq := head_no Nb.out h1 hsz
          go_wp2_with (go_at_call 137; refine (Ob.out _).mono ?_; rintro e w9 ⟨rfl, hb⟩; have L9 := Aside0.mk (chain HL.out hb); clear hb r0 r1 r2)
          go_roundg k1
          case measure => have := HK.out; omega
          case rel => exact ⟨2, rfl, ⟨by have := HA.out; omega⟩, ⟨by omega⟩, ⟨by have := HK.out; omega⟩, L9⟩
        · have g1 : decide ((y.size : Int) > 1) = false := decide_eq_false (by omega)
          skip
          go_wp2_with (go_at_call 137; refine (Ob.out _).mono ?_; rintro e w9 ⟨rfl, hb⟩; have L9 := Aside0.mk (chain HL.out hb); clear hb r0 r1 r2)
          go_roundg k1
          case measure => have := HK.out; omega
          case rel => exact ⟨2, rfl, ⟨by have := HA.out; omega⟩, ⟨by omega⟩, ⟨by have := HK.out; omega⟩, L9⟩
      · have hsz : 0 < z2.size := Nc.out.2.1
        by_cases h1 : 1 < z2.size
        · have g1 : decide ((z2.size : Int) > 1) = true := decide_eq_true (by omega)
          have hq := head_no Nc.out h1 hsz
          go_wp2_with (go_at_call 137; refine (Oc.out _).mono ?_; rintro e w9 ⟨rfl, hb⟩; have L9 := Aside0.mk (chain HL.out hb); clear hb r0 r1 r2)
          go_roundg k1
          case measure => have := HK.out; omega
          case rel => exact ⟨3, rfl, ⟨by have := HA.out; omega⟩, ⟨by omega⟩, ⟨by have := HK.out; omega⟩, L9⟩
        · have g1 : decide ((z2.size : Int) > 1) = false := decide_eq_false (by omega)
          skip
          go_wp2_with (go_at_call 137; refine (Oc.out _).mono ?_; rintro e w9 ⟨rfl, hb⟩; have L9 := Aside0.mk (chain HL.out hb); clear hb r0 r1 r2)
          go_roundg k1
          case measure => have := HK.out; omega
          case rel => exact ⟨3, rfl, ⟨by have := HA.out; omega⟩, ⟨by omega⟩, ⟨by have := HK.out; omega⟩, L9⟩
      · have KL := Lib.hid ((HL.out.block _ (blk_lt K5.out)).trans K5.out)
        have TL := Lib.hid (chain T5.out HL.out)
        go_wp2_with (first | (go_at_call 138; refine (Ua.out _).mono ?_; rintro e wa ⟨rfl, hb⟩; clear Ua r0 r1 r2; have Wa := Lib.hid (Rw.below RL.out hb); have Ka := Lib.hid ((hb.block _ (blk_lt KL.out)).trans KL.out); have Ta := Lib.hid (chain TL.out hb); have Was : Hid (Rw (wa.setCell ⟨w1.heap.size, 0, none⟩ (.int .u64 (a : Int))) g [x, y, z2]) := Lib.hid (Rw.far Wa.out Gn.out); have Kas : Hid ((wa.setCell ⟨w1.heap.size, 0, none⟩ (.int .u64 (a : Int))).heap[w1.heap.size]? = some (.cells #[.int .u64 (a : Int), .int .u64 0, .int .u64 0, .string pr, .string (⟨#[]⟩ : ByteArray), .string s] 88 (0, 0))) := Lib.hid (blk_put Ka.out 0 _ rfl); have Tas : Hid (Below w.heap.size w (wa.setCell ⟨w1.heap.size, 0, none⟩ (.int .u64 (a : Int)))) := Lib.hid (below_set Ta.out B1.out.size); have r0 := Rw.cell Wa.out 0 x rfl; have r1 := Rw.cell Wa.out 1 y rfl; have r2 := Rw.cell Wa.out 2 z2 rfl; have k0 := (blk_cell Ka.out 0).trans rfl; have fk0 := blk_frozen Ka.out 0; have k1 := (blk_cell Ka.out 1).trans rfl; have fk1 := blk_frozen Ka.out 1; have k2 := (blk_cell Ka.out 2).trans rfl; have fk2 := blk_frozen Ka.out 2; have k3 := (blk_cell Ka.out 3).trans rfl; have fk3 := blk_frozen Ka.out 3; have k4 := (blk_cell Ka.out 4).trans rfl; have fk4 := blk_frozen Ka.out 4; have k5 := (blk_cell Ka.out 5).trans rfl; have fk5 := blk_frozen Ka.out 5; clear hb) | (go_at_call 138; refine (Ub.out _).mono ?_; rintro e wb ⟨rfl, hb⟩; clear Ub r0 r1 r2 k0 fk0 k1 fk1 k2 fk2 k3 fk3 k4 fk4 k5 fk5; have Wb := Lib.hid (Rw.below Was.out hb); have Kb := Lib.hid ((hb.block _ (blk_lt Kas.out)).trans Kas.out); have Tb := Lib.hid (chain Tas.out hb); have Wbs : Hid (Rw (wb.setCell ⟨w1.heap.size, 1, none⟩ (.int .u64 (b : Int))) g [x, y, z2]) := Lib.hid (Rw.far Wb.out Gn.out); have Kbs : Hid ((wb.setCell ⟨w1.heap.size, 1, none⟩ (.int .u64 (b : Int))).heap[w1.heap.size]? = some (.cells #[.int .u64 (a : Int), .int .u64 (b : Int), .int .u64 0, .string pr, .string (⟨#[]⟩ : ByteArray), .string s] 88 (0, 0))) := Lib.hid (blk_put Kb.out 1 _ rfl); have Tbs : Hid (Below w.heap.size w (wb.setCell ⟨w1.heap.size, 1, none⟩ (.int .u64 (b : Int)))) := Lib.hid (below_set Tb.out B1.out.size); have r0 := Rw.cell Wb.out 0 x rfl; have r1 := Rw.cell Wb.out 1 y rfl; have r2 := Rw.cell Wb.out 2 z2 rfl; have k0 := (blk_cell Kb.out 0).trans rfl; have fk0 := blk_frozen Kb.out 0; have k1 := (blk_cell Kb.out 1).trans rfl; have fk1 := blk_frozen Kb.out 1; have k2 := (blk_cell Kb.out 2).trans rfl; have fk2 := blk_frozen Kb.out 2; have k3 := (blk_cell Kb.out 3).trans rfl; have fk3 := blk_frozen Kb.out 3; have k4 := (blk_cell Kb.out 4).trans rfl; have fk4 := blk_frozen Kb.out 4; have k5 := (blk_cell Kb.out 5).trans rfl; have fk5 := blk_frozen Kb.out 5; clear hb) | (go_at_call 138; refine (Uc.out _).mono ?_; rintro e wc ⟨rfl, hb⟩; clear Uc r0 r1 r2 k0 fk0 k1 fk1 k2 fk2 k3 fk3 k4 fk4 k5 fk5; have Wc := Lib.hid (Rw.below Wbs.out hb); have Kc := Lib.hid ((hb.block _ (blk_lt Kbs.out)).trans Kbs.out); have Tc := Lib.hid (chain Tbs.out hb); have Wcs : Hid (Rw (wc.setCell ⟨w1.heap.size, 2, none⟩ (.int .u64 (c : Int))) g [x, y, z2]) := Lib.hid (Rw.far Wc.out Gn.out); have Kcs : Hid ((wc.setCell ⟨w1.heap.size, 2, none⟩ (.int .u64 (c : Int))).heap[w1.heap.size]? = some (.cells #[.int .u64 (a : Int), .int .u64 (b : Int), .int .u64 (c : Int), .string pr, .string (⟨#[]⟩ : ByteArray), .string s] 88 (0, 0))) := Lib.hid (blk_put Kc.out 2 _ rfl); have Tcs : Hid (Below w.heap.size w (wc.setCell ⟨w1.heap.size, 2, none⟩ (.int .u64 (c : Int)))) := Lib.hid (below_set Tc.out B1.out.size); have r0 := Rw.cell Wc.out 0 x rfl; have r1 := Rw.cell Wc.out 1 y rfl; have r2 := Rw.cell Wc.out 2 z2 rfl; have k0 := (blk_cell Kc.out 0).trans rfl; have fk0 := blk_frozen Kc.out 0; have k1 := (blk_cell Kc.out 1).trans rfl; have fk1 := blk_frozen Kc.out 1; have k2 := (blk_cell Kc.out 2).trans rfl; have fk2 := blk_frozen Kc.out 2; have k3 := (blk_cell Kc.out 3).trans rfl; have fk3 := blk_frozen Kc.out 3; have k4 := (blk_cell Kc.out 4).trans rfl; have fk4 := blk_frozen Kc.out 4; have k5 := (blk_cell Kc.out 5).trans rfl; have fk5 := blk_frozen Kc.out 5; clear hb))
        go_ret2
        exact ⟨⟨_, rfl, Kcs.out⟩, Tcs.out⟩

set_option maxRecDepth 100000 in
set_option maxHeartbeats 8000000 in
theorem strict_plus (s : ByteArray) (w : World) (hs0 : 0 < s.size) (hs1 : s.size ≤ 256) (x y z : ByteArray) (hsp : (partsN 46 2 s.data.toList).map ba = [x, y, z]) (hzs : z.size ≤ 2147483647) (z1 mt : ByteArray) (hP : 43 ∈ z.data.toList) (hsP : (partsN 43 1 z.data.toList).map ba = [z1, mt]) (hz1 : z1.size ≤ 2147483647) (hmt : mt.size ≤ 2147483647) (t5 : TypeId) (p5 : Value) (hG5 : G5 w t5 p5) (hM : ((parts 46 mt.data.toList).map ba).all metaPart = true) (hH : 45 ∉ z1.data.toList) (a b c : Nat) (hx : numOk x) (hy : numOk y) (hz : numOk z1) (hxs : x.size ≤ 2147483647) (hys : y.size ≤ 2147483647) (hqs : z1.size ≤ 2147483647) (ha : pu x = some a) (hb : pu y = some b) (hc : pu z1 = some c) :
    Calls Tryd.prog 95 #[.string s] w fun e w' => (∃ g, e = .returned (.tuple #[.pointer (some ⟨g, 0, none⟩), .nilIface]) ∧ Ver w' g a b c (⟨#[]⟩ : ByteArray) mt s) ∧ Below w.heap.size w w' := by
  have hu49 := Tryd.underlying49
  have hu79 := Tryd.underlying79
  have hu88 := Tryd.underlying88
  have hu9 := Tryd.underlying9
  have q0 : ((s.size : Int) == 0) = false := by rw [beq_eq_false_iff_ne]; omega
  have q1 : decide ((s.size : Int) > 256) = false := decide_eq_false (by omega)
  have S1 := Lib.hid (fun W => (hsp ▸ splitN_any 46 2 (by omega) s (by omega) W : Calls Tryd.prog 134 #[.string s, .string ⟨#[46]⟩, .int .i64 3] W fun e w' => ∃ v, e = .returned v ∧ Kd.R Kd.string 9 w' W.heap.size (fun _ => True) v [x, y, z] ∧ Below W.heap.size W w'))
  have D1 := Lib.hid (fun W => (decide_eq_true hP ▸ contains_any 43 z hzs W : Calls Tryd.prog 135 #[.string z, .string ⟨#[43]⟩] W fun e w' => e = .returned (.bool true) ∧ Below W.heap.size W w'))
  have S2 := Lib.hid (fun W => (hsP ▸ splitN_any 43 1 (by omega) z hzs W : Calls Tryd.prog 134 #[.string z, .string ⟨#[43]⟩, .int .i64 2] W fun e w' => ∃ v, e = .returned v ∧ Kd.R Kd.string 9 w' W.heap.size (fun _ => True) v [z1, mt] ∧ Below W.heap.size W w'))
  have M0 := fun W h => metadata_calls mt hmt t5 p5 W h
  rw [hM] at M0
  have M1 := Lib.hid (fun W h => (show Calls Tryd.prog 136 #[.string mt] W fun e w' => e = .returned .nilIface ∧ Below W.heap.size W w' from M0 W h))
  have H5 := Lib.hid hG5
  have D2 := Lib.hid (fun W => (decide_eq_false hH ▸ contains_any 45 z1 hz1 W : Calls Tryd.prog 135 #[.string z1, .string ⟨#[45]⟩] W fun e w' => e = .returned (.bool false) ∧ Below W.heap.size W w'))
  have Oa := Lib.hid (fun W => (hx.1 ▸ only_calls x numB W : Calls Tryd.prog 137 #[.string x, .string ⟨#[48, 49, 50, 51, 52, 53, 54, 55, 56, 57]⟩] W fun e w' => e = .returned (.bool true) ∧ Below W.heap.size W w'))
  have Ua := Lib.hid (fun W => pu_ok x hxs a ha W)
  have Na := Lib.hid hx
  have Ob := Lib.hid (fun W => (hy.1 ▸ only_calls y numB W : Calls Tryd.prog 137 #[.string y, .string ⟨#[48, 49, 50, 51, 52, 53, 54, 55, 56, 57]⟩] W fun e w' => e = .returned (.bool true) ∧ Below W.heap.size W w'))
  have Ub := Lib.hid (fun W => pu_ok y hys b hb W)
  have Nb := Lib.hid hy
  have Oc := Lib.hid (fun W => (hz.1 ▸ only_calls z1 numB W : Calls Tryd.prog 137 #[.string z1, .string ⟨#[48, 49, 50, 51, 52, 53, 54, 55, 56, 57]⟩] W fun e w' => e = .returned (.bool true) ∧ Below W.heap.size W w'))
  have Uc := Lib.hid (fun W => pu_ok z1 hqs c hc W)
  have Nc := Lib.hid hz
  clear hsp hP hsP hM hG5 hH hx hy hz ha hb hc M0
  go_enter Tryd.func95, Tryd.ntmps95
  go_wp2_with (first | (go_at_call 134; refine (S1.out _).mono ?_; rintro e w1 ⟨v1, rfl, hR, hb⟩; clear S1; obtain ⟨g, cg, rfl, hg0, R1⟩ := Rw.of (by simp) hR; have B1 := Lib.hid hb; have W1 : Hid (Rw (w1.alloc (.cells #[.int .u64 0, .int .u64 0, .int .u64 0, .string (⟨#[]⟩ : ByteArray), .string (⟨#[]⟩ : ByteArray), .string s] 88)) g [x, y, z]) := Lib.hid (R1.below (below_new _ _)); have K1 : Hid ((w1.alloc (.cells #[.int .u64 0, .int .u64 0, .int .u64 0, .string (⟨#[]⟩ : ByteArray), .string (⟨#[]⟩ : ByteArray), .string s] 88)).heap[w1.heap.size]? = some (.cells #[.int .u64 0, .int .u64 0, .int .u64 0, .string (⟨#[]⟩ : ByteArray), .string (⟨#[]⟩ : ByteArray), .string s] 88 (0, 0))) := Lib.hid (heap_alloc_new _ _); have T1 : Hid (Below w.heap.size w (w1.alloc (.cells #[.int .u64 0, .int .u64 0, .int .u64 0, .string (⟨#[]⟩ : ByteArray), .string (⟨#[]⟩ : ByteArray), .string s] 88))) := Lib.hid (chain hb (below_new _ _)); have Gn : Hid (g ≠ w1.heap.size) := Lib.hid (Nat.ne_of_lt R1.lt); have r0 := Rw.cell W1.out 0 x rfl; have r1 := Rw.cell W1.out 1 y rfl; have r2 := Rw.cell W1.out 2 z rfl; clear hR hb R1) | (go_at_call 135; refine (D1.out _).mono ?_; rintro e w2 ⟨rfl, hb⟩; clear D1 r0 r1 r2; have W2 := Lib.hid (Rw.below W1.out hb); have K2 := Lib.hid ((hb.block _ (blk_lt K1.out)).trans K1.out); have T2 := Lib.hid (chain T1.out hb); have r0 := Rw.cell W2.out 0 x rfl; have r1 := Rw.cell W2.out 1 y rfl; have r2 := Rw.cell W2.out 2 z rfl; have k0 := (blk_cell K2.out 0).trans rfl; have fk0 := blk_frozen K2.out 0; have k1 := (blk_cell K2.out 1).trans rfl; have fk1 := blk_frozen K2.out 1; have k2 := (blk_cell K2.out 2).trans rfl; have fk2 := blk_frozen K2.out 2; have k3 := (blk_cell K2.out 3).trans rfl; have fk3 := blk_frozen K2.out 3; have k4 := (blk_cell K2.out 4).trans rfl; have fk4 := blk_frozen K2.out 4; have k5 := (blk_cell K2.out 5).trans rfl; have fk5 := blk_frozen K2.out 5; clear hb) | (go_at_call 134; refine (S2.out _).mono ?_; rintro e w3 ⟨v3, rfl, hR, hb⟩; clear S2 r0 r1 r2 k0 fk0 k1 fk1 k2 fk2 k3 fk3 k4 fk4 k5 fk5; obtain ⟨g2, cg2, rfl, hg3, RR⟩ := Rw.of (by simp) hR; have W3 := Lib.hid (Rw.below W2.out hb); have K3 := Lib.hid ((hb.block _ (blk_lt K2.out)).trans K2.out); have T3 := Lib.hid (chain T2.out hb); have W3b : Hid (Rw ((w3.setCell ⟨w1.heap.size, 4, none⟩ (.string mt)).setCell ⟨g, 2, none⟩ (.string z1)) g [x, y, z1]) := Lib.hid (Rw.put2 z1 (Rw.far W3.out Gn.out)); have K3b : Hid (((w3.setCell ⟨w1.heap.size, 4, none⟩ (.string mt)).setCell ⟨g, 2, none⟩ (.string z1)).heap[w1.heap.size]? = some (.cells #[.int .u64 0, .int .u64 0, .int .u64 0, .string (⟨#[]⟩ : ByteArray), .string mt, .string s] 88 (0, 0))) := Lib.hid ((Below.heap_setCell (w3.setCell ⟨w1.heap.size, 4, none⟩ (.string mt)) ⟨g, 2, none⟩ _ w1.heap.size (Ne.symm Gn.out)).trans (blk_put K3.out 4 _ rfl)); have T3b : Hid (Below w.heap.size w ((w3.setCell ⟨w1.heap.size, 4, none⟩ (.string mt)).setCell ⟨g, 2, none⟩ (.string z1))) := Lib.hid (below_set (below_set T3.out B1.out.size) hg0); have r0 := Rw.cell W3.out 0 x rfl; have r1 := Rw.cell W3.out 1 y rfl; have r2 := Rw.cell W3.out 2 z rfl; have u0 := Rw.cell RR 0 z1 rfl; have u1 := Rw.cell RR 1 mt rfl; have fr := Rw.frozen W3.out 2; have k0 := (blk_cell K3.out 0).trans rfl; have fk0 := blk_frozen K3.out 0; have k1 := (blk_cell K3.out 1).trans rfl; have fk1 := blk_frozen K3.out 1; have k2 := (blk_cell K3.out 2).trans rfl; have fk2 := blk_frozen K3.out 2; have k3 := (blk_cell K3.out 3).trans rfl; have fk3 := blk_frozen K3.out 3; have k4 := (blk_cell K3.out 4).trans rfl; have fk4 := blk_frozen K3.out 4; have k5 := (blk_cell K3.out 5).trans rfl; have fk5 := blk_frozen K3.out 5; clear hR hb RR) | (go_at_call 136; refine (M1.out _ (H5.out.below T3b.out)).mono ?_; rintro e w4 ⟨rfl, hb⟩; clear M1 r0 r1 r2 k0 fk0 k1 fk1 k2 fk2 k3 fk3 k4 fk4 k5 fk5 u0 u1 fr; have W4 := Lib.hid (Rw.below W3b.out hb); have K4 := Lib.hid ((hb.block _ (blk_lt K3b.out)).trans K3b.out); have T4 := Lib.hid (chain T3b.out hb); have r0 := Rw.cell W4.out 0 x rfl; have r1 := Rw.cell W4.out 1 y rfl; have r2 := Rw.cell W4.out 2 z1 rfl; have k0 := (blk_cell K4.out 0).trans rfl; have fk0 := blk_frozen K4.out 0; have k1 := (blk_cell K4.out 1).trans rfl; have fk1 := blk_frozen K4.out 1; have k2 := (blk_cell K4.out 2).trans rfl; have fk2 := blk_frozen K4.out 2; have k3 := (blk_cell K4.out 3).trans rfl; have fk3 := blk_frozen K4.out 3; have k4 := (blk_cell K4.out 4).trans rfl; have fk4 := blk_frozen K4.out 4; have k5 := (blk_cell K4.out 5).trans rfl; have fk5 := blk_frozen K4.out 5; clear hb) | (go_at_call 135; refine (D2.out _).mono ?_; rintro e w5 ⟨rfl, hb⟩; clear D2 r0 r1 r2 k0 fk0 k1 fk1 k2 fk2 k3 fk3 k4 fk4 k5 fk5; have W5 := Lib.hid (Rw.below W4.out hb); have K5 := Lib.hid ((hb.block _ (blk_lt K4.out)).trans K4.out); have T5 := Lib.hid (chain T4.out hb); have r0 := Rw.cell W5.out 0 x rfl; have r1 := Rw.cell W5.out 1 y rfl; have r2 := Rw.cell W5.out 2 z1 rfl; have k0 := (blk_cell K5.out 0).trans rfl; have fk0 := blk_frozen K5.out 0; have k1 := (blk_cell K5.out 1).trans rfl; have fk1 := blk_frozen K5.out 1; have k2 := (blk_cell K5.out 2).trans rfl; have fk2 := blk_frozen K5.out 2; have k3 := (blk_cell K5.out 3).trans rfl; have fk3 := blk_frozen K5.out 3; have k4 := (blk_cell K5.out 4).trans rfl; have fk4 := blk_frozen K5.out 4; have k5 := (blk_cell K5.out 5).trans rfl; have fk5 := blk_frozen K5.out 5; clear hb))
  clear r0 r1 r2 k0 fk0 k1 fk1 k2 fk2 k3 fk3 k4 fk4 k5 fk5
  go_loopg [86] 4 (fun kq v86 w' => ∃ (x86 : Int), v86 = .int .i64 x86 ∧ Aside0 (x86 + kq = 4) ∧ Aside0 (0 ≤ x86 ∧ x86 ≤ 3) ∧ Aside0 (kq ≤ 4) ∧ Aside0 (Below w5.heap.size w5 w'))
  case atStart => exact ⟨0, rfl, ⟨by omega⟩, ⟨by omega⟩, ⟨Nat.le_refl _⟩, ⟨Below.refl _ _⟩⟩
  case round =>
    obtain ⟨x86, rfl, HA, HX, HK, HL⟩ := hrel
    cases gk with
    | zero => exact absurd HA.out (by have := HX.out; omega)
    | succ k1 =>
      rename World => wo
      have RL := Lib.hid (Rw.below W5.out HL.out)
      have r0 := Rw.cell RL.out 0 x rfl
      have r1 := Rw.cell RL.out 1 y rfl
      have r2 := Rw.cell RL.out 2 z1 rfl
      have hx86 : x86 = 0 ∨ x86 = 1 ∨ x86 = 2 ∨ x86 = 3 := by have := HX.out; omega
      rcases hx86 with rfl | rfl | rfl | rfl
      · have hsz : 0 < x.size := Na.out.2.1
        by_cases h1 : 1 < x.size
        · have g1 : decide ((x.size : Int) > 1) = true := decide_eq_true (by omega)
          have hq := head_no Na.out h1 hsz
          go_wp2_with (go_at_call 137; refine (Oa.out _).mono ?_; rintro e w9 ⟨rfl, hb⟩; have L9 := Aside0.mk (chain HL.out hb); clear hb r0 r1 r2)
          go_roundg k1
          case measure => have := HK.out; omega
          case rel => exact ⟨1, rfl, ⟨by have := HA.out; omega⟩, ⟨by omega⟩, ⟨by have := HK.out; omega⟩, L9⟩
        · have g1 : decide ((x.size : Int) > 1) = false := decide_eq_false (by omega)
          skip
          go_wp2_with (go_at_call 137; refine (Oa.out _).mono ?_; rintro e w9 ⟨rfl, hb⟩; have L9 := Aside0.mk (chain HL.out hb); clear hb r0 r1 r2)
          go_roundg k1
          case measure => have := HK.out; omega
          case rel => exact ⟨1, rfl, ⟨by have := HA.out; omega⟩, ⟨by omega⟩, ⟨by have := HK.out; omega⟩, L9⟩
      · have hsz : 0 < y.size := Nb.out.2.1
        by_cases h1 : 1 < y.size
        · have g1 : decide ((y.size : Int) > 1) = true := decide_eq_true (by omega)
          have hq := head_no Nb.out h1 hsz
          go_wp2_with (go_at_call 137; refine (Ob.out _).mono ?_; rintro e w9 ⟨rfl, hb⟩; have L9 := Aside0.mk (chain HL.out hb); clear hb r0 r1 r2)
          go_roundg k1
          case measure => have := HK.out; omega
          case rel => exact ⟨2, rfl, ⟨by have := HA.out; omega⟩, ⟨by omega⟩, ⟨by have := HK.out; omega⟩, L9⟩
        · have g1 : decide ((y.size : Int) > 1) = false := decide_eq_false (by omega)
          skip
          go_wp2_with (go_at_call 137; refine (Ob.out _).mono ?_; rintro e w9 ⟨rfl, hb⟩; have L9 := Aside0.mk (chain HL.out hb); clear hb r0 r1 r2)
          go_roundg k1
          case measure => have := HK.out; omega
          case rel => exact ⟨2, rfl, ⟨by have := HA.out; omega⟩, ⟨by omega⟩, ⟨by have := HK.out; omega⟩, L9⟩
      · have hsz : 0 < z1.size := Nc.out.2.1
        by_cases h1 : 1 < z1.size
        · have g1 : decide ((z1.size : Int) > 1) = true := decide_eq_true (by omega)
          have hq := head_no Nc.out h1 hsz
          go_wp2_with (go_at_call 137; refine (Oc.out _).mono ?_; rintro e w9 ⟨rfl, hb⟩; have L9 := Aside0.mk (chain HL.out hb); clear hb r0 r1 r2)
          go_roundg k1
          case measure => have := HK.out; omega
          case rel => exact ⟨3, rfl, ⟨by have := HA.out; omega⟩, ⟨by omega⟩, ⟨by have := HK.out; omega⟩, L9⟩
        · have g1 : decide ((z1.size : Int) > 1) = false := decide_eq_false (by omega)
          skip
          go_wp2_with (go_at_call 137; refine (Oc.out _).mono ?_; rintro e w9 ⟨rfl, hb⟩; have L9 := Aside0.mk (chain HL.out hb); clear hb r0 r1 r2)
          go_roundg k1
          case measure => have := HK.out; omega
          case rel => exact ⟨3, rfl, ⟨by have := HA.out; omega⟩, ⟨by omega⟩, ⟨by have := HK.out; omega⟩, L9⟩
      · have KL := Lib.hid ((HL.out.block _ (blk_lt K5.out)).trans K5.out)
        have TL := Lib.hid (chain T5.out HL.out)
        go_wp2_with (first | (go_at_call 138; refine (Ua.out _).mono ?_; rintro e wa ⟨rfl, hb⟩; clear Ua r0 r1 r2; have Wa := Lib.hid (Rw.below RL.out hb); have Ka := Lib.hid ((hb.block _ (blk_lt KL.out)).trans KL.out); have Ta := Lib.hid (chain TL.out hb); have Was : Hid (Rw (wa.setCell ⟨w1.heap.size, 0, none⟩ (.int .u64 (a : Int))) g [x, y, z1]) := Lib.hid (Rw.far Wa.out Gn.out); have Kas : Hid ((wa.setCell ⟨w1.heap.size, 0, none⟩ (.int .u64 (a : Int))).heap[w1.heap.size]? = some (.cells #[.int .u64 (a : Int), .int .u64 0, .int .u64 0, .string (⟨#[]⟩ : ByteArray), .string mt, .string s] 88 (0, 0))) := Lib.hid (blk_put Ka.out 0 _ rfl); have Tas : Hid (Below w.heap.size w (wa.setCell ⟨w1.heap.size, 0, none⟩ (.int .u64 (a : Int)))) := Lib.hid (below_set Ta.out B1.out.size); have r0 := Rw.cell Wa.out 0 x rfl; have r1 := Rw.cell Wa.out 1 y rfl; have r2 := Rw.cell Wa.out 2 z1 rfl; have k0 := (blk_cell Ka.out 0).trans rfl; have fk0 := blk_frozen Ka.out 0; have k1 := (blk_cell Ka.out 1).trans rfl; have fk1 := blk_frozen Ka.out 1; have k2 := (blk_cell Ka.out 2).trans rfl; have fk2 := blk_frozen Ka.out 2; have k3 := (blk_cell Ka.out 3).trans rfl; have fk3 := blk_frozen Ka.out 3; have k4 := (blk_cell Ka.out 4).trans rfl; have fk4 := blk_frozen Ka.out 4; have k5 := (blk_cell Ka.out 5).trans rfl; have fk5 := blk_frozen Ka.out 5; clear hb) | (go_at_call 138; refine (Ub.out _).mono ?_; rintro e wb ⟨rfl, hb⟩; clear Ub r0 r1 r2 k0 fk0 k1 fk1 k2 fk2 k3 fk3 k4 fk4 k5 fk5; have Wb := Lib.hid (Rw.below Was.out hb); have Kb := Lib.hid ((hb.block _ (blk_lt Kas.out)).trans Kas.out); have Tb := Lib.hid (chain Tas.out hb); have Wbs : Hid (Rw (wb.setCell ⟨w1.heap.size, 1, none⟩ (.int .u64 (b : Int))) g [x, y, z1]) := Lib.hid (Rw.far Wb.out Gn.out); have Kbs : Hid ((wb.setCell ⟨w1.heap.size, 1, none⟩ (.int .u64 (b : Int))).heap[w1.heap.size]? = some (.cells #[.int .u64 (a : Int), .int .u64 (b : Int), .int .u64 0, .string (⟨#[]⟩ : ByteArray), .string mt, .string s] 88 (0, 0))) := Lib.hid (blk_put Kb.out 1 _ rfl); have Tbs : Hid (Below w.heap.size w (wb.setCell ⟨w1.heap.size, 1, none⟩ (.int .u64 (b : Int)))) := Lib.hid (below_set Tb.out B1.out.size); have r0 := Rw.cell Wb.out 0 x rfl; have r1 := Rw.cell Wb.out 1 y rfl; have r2 := Rw.cell Wb.out 2 z1 rfl; have k0 := (blk_cell Kb.out 0).trans rfl; have fk0 := blk_frozen Kb.out 0; have k1 := (blk_cell Kb.out 1).trans rfl; have fk1 := blk_frozen Kb.out 1; have k2 := (blk_cell Kb.out 2).trans rfl; have fk2 := blk_frozen Kb.out 2; have k3 := (blk_cell Kb.out 3).trans rfl; have fk3 := blk_frozen Kb.out 3; have k4 := (blk_cell Kb.out 4).trans rfl; have fk4 := blk_frozen Kb.out 4; have k5 := (blk_cell Kb.out 5).trans rfl; have fk5 := blk_frozen Kb.out 5; clear hb) | (go_at_call 138; refine (Uc.out _).mono ?_; rintro e wc ⟨rfl, hb⟩; clear Uc r0 r1 r2 k0 fk0 k1 fk1 k2 fk2 k3 fk3 k4 fk4 k5 fk5; have Wc := Lib.hid (Rw.below Wbs.out hb); have Kc := Lib.hid ((hb.block _ (blk_lt Kbs.out)).trans Kbs.out); have Tc := Lib.hid (chain Tbs.out hb); have Wcs : Hid (Rw (wc.setCell ⟨w1.heap.size, 2, none⟩ (.int .u64 (c : Int))) g [x, y, z1]) := Lib.hid (Rw.far Wc.out Gn.out); have Kcs : Hid ((wc.setCell ⟨w1.heap.size, 2, none⟩ (.int .u64 (c : Int))).heap[w1.heap.size]? = some (.cells #[.int .u64 (a : Int), .int .u64 (b : Int), .int .u64 (c : Int), .string (⟨#[]⟩ : ByteArray), .string mt, .string s] 88 (0, 0))) := Lib.hid (blk_put Kc.out 2 _ rfl); have Tcs : Hid (Below w.heap.size w (wc.setCell ⟨w1.heap.size, 2, none⟩ (.int .u64 (c : Int)))) := Lib.hid (below_set Tc.out B1.out.size); have r0 := Rw.cell Wc.out 0 x rfl; have r1 := Rw.cell Wc.out 1 y rfl; have r2 := Rw.cell Wc.out 2 z1 rfl; have k0 := (blk_cell Kc.out 0).trans rfl; have fk0 := blk_frozen Kc.out 0; have k1 := (blk_cell Kc.out 1).trans rfl; have fk1 := blk_frozen Kc.out 1; have k2 := (blk_cell Kc.out 2).trans rfl; have fk2 := blk_frozen Kc.out 2; have k3 := (blk_cell Kc.out 3).trans rfl; have fk3 := blk_frozen Kc.out 3; have k4 := (blk_cell Kc.out 4).trans rfl; have fk4 := blk_frozen Kc.out 4; have k5 := (blk_cell Kc.out 5).trans rfl; have fk5 := blk_frozen Kc.out 5; clear hb))
        go_ret2
        exact ⟨⟨_, rfl, Kcs.out⟩, Tcs.out⟩

set_option maxRecDepth 100000 in
set_option maxHeartbeats 8000000 in
theorem strict_bare (s : ByteArray) (w : World) (hs0 : 0 < s.size) (hs1 : s.size ≤ 256) (x y z : ByteArray) (hsp : (partsN 46 2 s.data.toList).map ba = [x, y, z]) (hzs : z.size ≤ 2147483647) (hP : 43 ∉ z.data.toList) (hH : 45 ∉ z.data.toList) (a b c : Nat) (hx : numOk x) (hy : numOk y) (hz : numOk z) (hxs : x.size ≤ 2147483647) (hys : y.size ≤ 2147483647) (hqs : z.size ≤ 2147483647) (ha : pu x = some a) (hb : pu y = some b) (hc : pu z = some c) :
    Calls Tryd.prog 95 #[.string s] w fun e w' => (∃ g, e = .returned (.tuple #[.pointer (some ⟨g, 0, none⟩), .nilIface]) ∧ Ver w' g a b c (⟨#[]⟩ : ByteArray) (⟨#[]⟩ : ByteArray) s) ∧ Below w.heap.size w w' := by
  have hu49 := Tryd.underlying49
  have hu79 := Tryd.underlying79
  have hu88 := Tryd.underlying88
  have hu9 := Tryd.underlying9
  have q0 : ((s.size : Int) == 0) = false := by rw [beq_eq_false_iff_ne]; omega
  have q1 : decide ((s.size : Int) > 256) = false := decide_eq_false (by omega)
  have S1 := Lib.hid (fun W => (hsp ▸ splitN_any 46 2 (by omega) s (by omega) W : Calls Tryd.prog 134 #[.string s, .string ⟨#[46]⟩, .int .i64 3] W fun e w' => ∃ v, e = .returned v ∧ Kd.R Kd.string 9 w' W.heap.size (fun _ => True) v [x, y, z] ∧ Below W.heap.size W w'))
  have D1 := Lib.hid (fun W => (decide_eq_false hP ▸ contains_any 43 z hzs W : Calls Tryd.prog 135 #[.string z, .string ⟨#[43]⟩] W fun e w' => e = .returned (.bool false) ∧ Below W.heap.size W w'))
  have D2 := Lib.hid (fun W => (decide_eq_false hH ▸ contains_any 45 z hzs W : Calls Tryd.prog 135 #[.string z, .string ⟨#[45]⟩] W fun e w' => e = .returned (.bool false) ∧ Below W.heap.size W w'))
  have Oa := Lib.hid (fun W => (hx.1 ▸ only_calls x numB W : Calls Tryd.prog 137 #[.string x, .string ⟨#[48, 49, 50, 51, 52, 53, 54, 55, 56, 57]⟩] W fun e w' => e = .returned (.bool true) ∧ Below W.heap.size W w'))
  have Ua := Lib.hid (fun W => pu_ok x hxs a ha W)
  have Na := Lib.hid hx
  have Ob := Lib.hid (fun W => (hy.1 ▸ only_calls y numB W : Calls Tryd.prog 137 #[.string y, .string ⟨#[48, 49, 50, 51, 52, 53, 54, 55, 56, 57]⟩] W fun e w' => e = .returned (.bool true) ∧ Below W.heap.size W w'))
  have Ub := Lib.hid (fun W => pu_ok y hys b hb W)
  have Nb := Lib.hid hy
  have Oc := Lib.hid (fun W => (hz.1 ▸ only_calls z numB W : Calls Tryd.prog 137 #[.string z, .string ⟨#[48, 49, 50, 51, 52, 53, 54, 55, 56, 57]⟩] W fun e w' => e = .returned (.bool true) ∧ Below W.heap.size W w'))
  have Uc := Lib.hid (fun W => pu_ok z hqs c hc W)
  have Nc := Lib.hid hz
  clear hsp hP hH hx hy hz ha hb hc
  go_enter Tryd.func95, Tryd.ntmps95
  go_wp2_with (first | (go_at_call 134; refine (S1.out _).mono ?_; rintro e w1 ⟨v1, rfl, hR, hb⟩; clear S1; obtain ⟨g, cg, rfl, hg0, R1⟩ := Rw.of (by simp) hR; have B1 := Lib.hid hb; have W1 : Hid (Rw (w1.alloc (.cells #[.int .u64 0, .int .u64 0, .int .u64 0, .string (⟨#[]⟩ : ByteArray), .string (⟨#[]⟩ : ByteArray), .string s] 88)) g [x, y, z]) := Lib.hid (R1.below (below_new _ _)); have K1 : Hid ((w1.alloc (.cells #[.int .u64 0, .int .u64 0, .int .u64 0, .string (⟨#[]⟩ : ByteArray), .string (⟨#[]⟩ : ByteArray), .string s] 88)).heap[w1.heap.size]? = some (.cells #[.int .u64 0, .int .u64 0, .int .u64 0, .string (⟨#[]⟩ : ByteArray), .string (⟨#[]⟩ : ByteArray), .string s] 88 (0, 0))) := Lib.hid (heap_alloc_new _ _); have T1 : Hid (Below w.heap.size w (w1.alloc (.cells #[.int .u64 0, .int .u64 0, .int .u64 0, .string (⟨#[]⟩ : ByteArray), .string (⟨#[]⟩ : ByteArray), .string s] 88))) := Lib.hid (chain hb (below_new _ _)); have Gn : Hid (g ≠ w1.heap.size) := Lib.hid (Nat.ne_of_lt R1.lt); have r0 := Rw.cell W1.out 0 x rfl; have r1 := Rw.cell W1.out 1 y rfl; have r2 := Rw.cell W1.out 2 z rfl; clear hR hb R1) | (go_at_call 135; refine (D1.out _).mono ?_; rintro e w2 ⟨rfl, hb⟩; clear D1 r0 r1 r2; have W2 := Lib.hid (Rw.below W1.out hb); have K2 := Lib.hid ((hb.block _ (blk_lt K1.out)).trans K1.out); have T2 := Lib.hid (chain T1.out hb); have r0 := Rw.cell W2.out 0 x rfl; have r1 := Rw.cell W2.out 1 y rfl; have r2 := Rw.cell W2.out 2 z rfl; have k0 := (blk_cell K2.out 0).trans rfl; have fk0 := blk_frozen K2.out 0; have k1 := (blk_cell K2.out 1).trans rfl; have fk1 := blk_frozen K2.out 1; have k2 := (blk_cell K2.out 2).trans rfl; have fk2 := blk_frozen K2.out 2; have k3 := (blk_cell K2.out 3).trans rfl; have fk3 := blk_frozen K2.out 3; have k4 := (blk_cell K2.out 4).trans rfl; have fk4 := blk_frozen K2.out 4; have k5 := (blk_cell K2.out 5).trans rfl; have fk5 := blk_frozen K2.out 5; clear hb) | (go_at_call 135; refine (D2.out _).mono ?_; rintro e w3 ⟨rfl, hb⟩; clear D2 r0 r1 r2 k0 fk0 k1 fk1 k2 fk2 k3 fk3 k4 fk4 k5 fk5; have W3 := Lib.hid (Rw.below W2.out hb); have K3 := Lib.hid ((hb.block _ (blk_lt K2.out)).trans K2.out); have T3 := Lib.hid (chain T2.out hb); have r0 := Rw.cell W3.out 0 x rfl; have r1 := Rw.cell W3.out 1 y rfl; have r2 := Rw.cell W3.out 2 z rfl; have k0 := (blk_cell K3.out 0).trans rfl; have fk0 := blk_frozen K3.out 0; have k1 := (blk_cell K3.out 1).trans rfl; have fk1 := blk_frozen K3.out 1; have k2 := (blk_cell K3.out 2).trans rfl; have fk2 := blk_frozen K3.out 2; have k3 := (blk_cell K3.out 3).trans rfl; have fk3 := blk_frozen K3.out 3; have k4 := (blk_cell K3.out 4).trans rfl; have fk4 := blk_frozen K3.out 4; have k5 := (blk_cell K3.out 5).trans rfl; have fk5 := blk_frozen K3.out 5; clear hb))
  clear r0 r1 r2 k0 fk0 k1 fk1 k2 fk2 k3 fk3 k4 fk4 k5 fk5
  go_loopg [86] 4 (fun kq v86 w' => ∃ (x86 : Int), v86 = .int .i64 x86 ∧ Aside0 (x86 + kq = 4) ∧ Aside0 (0 ≤ x86 ∧ x86 ≤ 3) ∧ Aside0 (kq ≤ 4) ∧ Aside0 (Below w3.heap.size w3 w'))
  case atStart => exact ⟨0, rfl, ⟨by omega⟩, ⟨by omega⟩, ⟨Nat.le_refl _⟩, ⟨Below.refl _ _⟩⟩
  case round =>
    obtain ⟨x86, rfl, HA, HX, HK, HL⟩ := hrel
    cases gk with
    | zero => exact absurd HA.out (by have := HX.out; omega)
    | succ k1 =>
      rename World => wo
      have RL := Lib.hid (Rw.below W3.out HL.out)
      have r0 := Rw.cell RL.out 0 x rfl
      have r1 := Rw.cell RL.out 1 y rfl
      have r2 := Rw.cell RL.out 2 z rfl
      have hx86 : x86 = 0 ∨ x86 = 1 ∨ x86 = 2 ∨ x86 = 3 := by have := HX.out; omega
      rcases hx86 with rfl | rfl | rfl | rfl
      · have hsz : 0 < x.size := Na.out.2.1
        by_cases h1 : 1 < x.size
        · have g1 : decide ((x.size : Int) > 1) = true := decide_eq_true (by omega)
          have hq := head_no Na.out h1 hsz
          go_wp2_with (go_at_call 137; refine (Oa.out _).mono ?_; rintro e w9 ⟨rfl, hb⟩; have L9 := Aside0.mk (chain HL.out hb); clear hb r0 r1 r2)
          go_roundg k1
          case measure => have := HK.out; omega
          case rel => exact ⟨1, rfl, ⟨by have := HA.out; omega⟩, ⟨by omega⟩, ⟨by have := HK.out; omega⟩, L9⟩
        · have g1 : decide ((x.size : Int) > 1) = false := decide_eq_false (by omega)
          skip
          go_wp2_with (go_at_call 137; refine (Oa.out _).mono ?_; rintro e w9 ⟨rfl, hb⟩; have L9 := Aside0.mk (chain HL.out hb); clear hb r0 r1 r2)
          go_roundg k1
          case measure => have := HK.out; omega
          case rel => exact ⟨1, rfl, ⟨by have := HA.out; omega⟩, ⟨by omega⟩, ⟨by have := HK.out; omega⟩, L9⟩
      · have hsz : 0 < y.size := Nb.out.2.1
        by_cases h1 : 1 < y.size
        · have g1 : decide ((y.size : Int) > 1) = true := decide_eq_true (by omega)
          have hq := head_no Nb.out h1 hsz
          go_wp2_with (go_at_call 137; refine (Ob.out _).mono ?_; rintro e w9 ⟨rfl, hb⟩; have L9 := Aside0.mk (chain HL.out hb); clear hb r0 r1 r2)
          go_roundg k1
          case measure => have := HK.out; omega
          case rel => exact ⟨2, rfl, ⟨by have := HA.out; omega⟩, ⟨by omega⟩, ⟨by have := HK.out; omega⟩, L9⟩
        · have g1 : decide ((y.size : Int) > 1) = false := decide_eq_false (by omega)
          skip
          go_wp2_with (go_at_call 137; refine (Ob.out _).mono ?_; rintro e w9 ⟨rfl, hb⟩; have L9 := Aside0.mk (chain HL.out hb); clear hb r0 r1 r2)
          go_roundg k1
          case measure => have := HK.out; omega
          case rel => exact ⟨2, rfl, ⟨by have := HA.out; omega⟩, ⟨by omega⟩, ⟨by have := HK.out; omega⟩, L9⟩
      · have hsz : 0 < z.size := Nc.out.2.1
        by_cases h1 : 1 < z.size
        · have g1 : decide ((z.size : Int) > 1) = true := decide_eq_true (by omega)
          have hq := head_no Nc.out h1 hsz
          go_wp2_with (go_at_call 137; refine (Oc.out _).mono ?_; rintro e w9 ⟨rfl, hb⟩; have L9 := Aside0.mk (chain HL.out hb); clear hb r0 r1 r2)
          go_roundg k1
          case measure => have := HK.out; omega
          case rel => exact ⟨3, rfl, ⟨by have := HA.out; omega⟩, ⟨by omega⟩, ⟨by have := HK.out; omega⟩, L9⟩
        · have g1 : decide ((z.size : Int) > 1) = false := decide_eq_false (by omega)
          skip
          go_wp2_with (go_at_call 137; refine (Oc.out _).mono ?_; rintro e w9 ⟨rfl, hb⟩; have L9 := Aside0.mk (chain HL.out hb); clear hb r0 r1 r2)
          go_roundg k1
          case measure => have := HK.out; omega
          case rel => exact ⟨3, rfl, ⟨by have := HA.out; omega⟩, ⟨by omega⟩, ⟨by have := HK.out; omega⟩, L9⟩
      · have KL := Lib.hid ((HL.out.block _ (blk_lt K3.out)).trans K3.out)
        have TL := Lib.hid (chain T3.out HL.out)
        go_wp2_with (first | (go_at_call 138; refine (Ua.out _).mono ?_; rintro e wa ⟨rfl, hb⟩; clear Ua r0 r1 r2; have Wa := Lib.hid (Rw.below RL.out hb); have Ka := Lib.hid ((hb.block _ (blk_lt KL.out)).trans KL.out); have Ta := Lib.hid (chain TL.out hb); have Was : Hid (Rw (wa.setCell ⟨w1.heap.size, 0, none⟩ (.int .u64 (a : Int))) g [x, y, z]) := Lib.hid (Rw.far Wa.out Gn.out); have Kas : Hid ((wa.setCell ⟨w1.heap.size, 0, none⟩ (.int .u64 (a : Int))).heap[w1.heap.size]? = some (.cells #[.int .u64 (a : Int), .int .u64 0, .int .u64 0, .string (⟨#[]⟩ : ByteArray), .string (⟨#[]⟩ : ByteArray), .string s] 88 (0, 0))) := Lib.hid (blk_put Ka.out 0 _ rfl); have Tas : Hid (Below w.heap.size w (wa.setCell ⟨w1.heap.size, 0, none⟩ (.int .u64 (a : Int)))) := Lib.hid (below_set Ta.out B1.out.size); have r0 := Rw.cell Wa.out 0 x rfl; have r1 := Rw.cell Wa.out 1 y rfl; have r2 := Rw.cell Wa.out 2 z rfl; have k0 := (blk_cell Ka.out 0).trans rfl; have fk0 := blk_frozen Ka.out 0; have k1 := (blk_cell Ka.out 1).trans rfl; have fk1 := blk_frozen Ka.out 1; have k2 := (blk_cell Ka.out 2).trans rfl; have fk2 := blk_frozen Ka.out 2; have k3 := (blk_cell Ka.out 3).trans rfl; have fk3 := blk_frozen Ka.out 3; have k4 := (blk_cell Ka.out 4).trans rfl; have fk4 := blk_frozen Ka.out 4; have k5 := (blk_cell Ka.out 5).trans rfl; have fk5 := blk_frozen Ka.out 5; clear hb) | (go_at_call 138; refine (Ub.out _).mono ?_; rintro e wb ⟨rfl, hb⟩; clear Ub r0 r1 r2 k0 fk0 k1 fk1 k2 fk2 k3 fk3 k4 fk4 k5 fk5; have Wb := Lib.hid (Rw.below Was.out hb); have Kb := Lib.hid ((hb.block _ (blk_lt Kas.out)).trans Kas.out); have Tb := Lib.hid (chain Tas.out hb); have Wbs : Hid (Rw (wb.setCell ⟨w1.heap.size, 1, none⟩ (.int .u64 (b : Int))) g [x, y, z]) := Lib.hid (Rw.far Wb.out Gn.out); have Kbs : Hid ((wb.setCell ⟨w1.heap.size, 1, none⟩ (.int .u64 (b : Int))).heap[w1.heap.size]? = some (.cells #[.int .u64 (a : Int), .int .u64 (b : Int), .int .u64 0, .string (⟨#[]⟩ : ByteArray), .string (⟨#[]⟩ : ByteArray), .string s] 88 (0, 0))) := Lib.hid (blk_put Kb.out 1 _ rfl); have Tbs : Hid (Below w.heap.size w (wb.setCell ⟨w1.heap.size, 1, none⟩ (.int .u64 (b : Int)))) := Lib.hid (below_set Tb.out B1.out.size); have r0 := Rw.cell Wb.out 0 x rfl; have r1 := Rw.cell Wb.out 1 y rfl; have r2 := Rw.cell Wb.out 2 z rfl; have k0 := (blk_cell Kb.out 0).trans rfl; have fk0 := blk_frozen Kb.out 0; have k1 := (blk_cell Kb.out 1).trans rfl; have fk1 := blk_frozen Kb.out 1; have k2 := (blk_cell Kb.out 2).trans rfl; have fk2 := blk_frozen Kb.out 2; have k3 := (blk_cell Kb.out 3).trans rfl; have fk3 := blk_frozen Kb.out 3; have k4 := (blk_cell Kb.out 4).trans rfl; have fk4 := blk_frozen Kb.out 4; have k5 := (blk_cell Kb.out 5).trans rfl; have fk5 := blk_frozen Kb.out 5; clear hb) | (go_at_call 138; refine (Uc.out _).mono ?_; rintro e wc ⟨rfl, hb⟩; clear Uc r0 r1 r2 k0 fk0 k1 fk1 k2 fk2 k3 fk3 k4 fk4 k5 fk5; have Wc := Lib.hid (Rw.below Wbs.out hb); have Kc := Lib.hid ((hb.block _ (blk_lt Kbs.out)).trans Kbs.out); have Tc := Lib.hid (chain Tbs.out hb); have Wcs : Hid (Rw (wc.setCell ⟨w1.heap.size, 2, none⟩ (.int .u64 (c : Int))) g [x, y, z]) := Lib.hid (Rw.far Wc.out Gn.out); have Kcs : Hid ((wc.setCell ⟨w1.heap.size, 2, none⟩ (.int .u64 (c : Int))).heap[w1.heap.size]? = some (.cells #[.int .u64 (a : Int), .int .u64 (b : Int), .int .u64 (c : Int), .string (⟨#[]⟩ : ByteArray), .string (⟨#[]⟩ : ByteArray), .string s] 88 (0, 0))) := Lib.hid (blk_put Kc.out 2 _ rfl); have Tcs : Hid (Below w.heap.size w (wc.setCell ⟨w1.heap.size, 2, none⟩ (.int .u64 (c : Int)))) := Lib.hid (below_set Tc.out B1.out.size); have r0 := Rw.cell Wc.out 0 x rfl; have r1 := Rw.cell Wc.out 1 y rfl; have r2 := Rw.cell Wc.out 2 z rfl; have k0 := (blk_cell Kc.out 0).trans rfl; have fk0 := blk_frozen Kc.out 0; have k1 := (blk_cell Kc.out 1).trans rfl; have fk1 := blk_frozen Kc.out 1; have k2 := (blk_cell Kc.out 2).trans rfl; have fk2 := blk_frozen Kc.out 2; have k3 := (blk_cell Kc.out 3).trans rfl; have fk3 := blk_frozen Kc.out 3; have k4 := (blk_cell Kc.out 4).trans rfl; have fk4 := blk_frozen Kc.out 4; have k5 := (blk_cell Kc.out 5).trans rfl; have fk5 := blk_frozen Kc.out 5; clear hb))
        go_ret2
        exact ⟨⟨_, rfl, Kcs.out⟩, Tcs.out⟩

end Go.Proofs.YtgenbmhmcnaiiaaDoor.H
