/- Texts of this claim, joined. -/
import Derived.Test.YtekkaknpgdgjjaaGreatDoorHaPTermW1
import Derived.Test.YtekkaknpgdgjjaaGreatDoorHaWritW1
import Derived.Test.YtekkaknpgdgjjaaGreatDoorHaTTW1
/- A term that is written in one of its ways is read as that term's parts. -/
namespace Go.Proofs.YtekkaknpgdgjjaaGreatDoor.H
open Go.RowKit Go.Proofs.YtekkaknpgdgjjaaGreatDoorW.PrintWords
set_option linter.unusedVariables false
set_option linter.unusedSimpArgs false
set_option maxRecDepth 100000

theorem numB_ptB {n : Nat} (h : numB n = true) : ptB n = true := by unfold ptB; rw [h]; rfl
theorem Pt.pt {n : Nat} {u : Nat → Nat} (hu : ∀ i, u i ≤ 18446744073709551615) {i : Nat} {x : List UInt8} (h : Pt n u i x) : x ≠ [] ∧ ∀ y ∈ x, ptB y.toNat = true := by
  unfold Pt at h
  split at h
  · rcases h with rfl | rfl
    · exact ⟨dec_ne _, fun y hy => numB_ptB (dec_numB _ y hy)⟩
    · refine ⟨by simp, fun y hy => ?_⟩
      rcases List.mem_cons.1 hy with rfl | hy
      · rfl
      · exact numB_ptB (dec_numB _ y hy)
  · rcases h with rfl | rfl | rfl <;> exact ⟨by simp, by decide⟩
theorem Pt.nu {n : Nat} {u : Nat → Nat} (hu : ∀ i, u i ≤ 18446744073709551615) {i : Nat} {x : List UInt8} (hi : i < n) (h : Pt n u i x) : Nu x (u i) := by
  unfold Pt at h
  rw [if_pos hi] at h
  have hd := Nu.dec (hu i) (dec_size _ (hu i))
  rcases h with rfl | rfl
  · exact hd
  · exact hd.zero (by have := dec_size _ (hu i); omega)
theorem Pt.wild {n : Nat} {u : Nat → Nat} {i : Nat} {x : List UInt8} (hi : ¬ i < n) (h : Pt n u i x) : isXv (ba x) = true := by
  unfold Pt at h
  rw [if_neg hi] at h
  unfold isXv
  simp only [toList_eq, ba_data]
  rcases h with rfl | rfl | rfl <;> rfl
theorem Nu.notx {D : List UInt8} {a : Nat} (h : Nu D a) : isXv (ba D) = false := by
  have k : ∀ y : UInt8, numB y.toNat = false → (D == [y]) = false := by
    intro y hy
    refine beq_eq_false_iff_ne.2 fun e => ?_
    have := h.all y (by rw [e]; simp)
    rw [this] at hy
    cases hy
  unfold isXv
  simp only [toList_eq, ba_data]
  rw [k 120 (by decide), k 42 (by decide), k 88 (by decide)]
  rfl
theorem nm1 {n : Nat} {u : Nat → Nat} {N : List UInt8} (h : Nm n u 1 N) : Pt n u 0 N := by
  obtain ⟨T0, x, h0, hx, rfl⟩ := h
  rw [show T0 = [] from h0]
  simpa using hx
theorem nm2 {n : Nat} {u : Nat → Nat} {N : List UInt8} (h : Nm n u 2 N) : ∃ x0 x1, Pt n u 0 x0 ∧ Pt n u 1 x1 ∧ N = x0 ++ (46 :: x1) := by
  obtain ⟨T0, x, h0, hx, rfl⟩ := h
  exact ⟨T0, x, nm1 h0, hx, by simp⟩
theorem nm3 {n : Nat} {u : Nat → Nat} {N : List UInt8} (h : Nm n u 3 N) : ∃ x0 x1 x2, Pt n u 0 x0 ∧ Pt n u 1 x1 ∧ Pt n u 2 x2 ∧ N = x0 ++ (46 :: (x1 ++ (46 :: x2))) := by
  obtain ⟨T0, x, h0, hx, rfl⟩ := h
  obtain ⟨x0, x1, h1, h2, rfl⟩ := nm2 h0
  exact ⟨x0, x1, x, h1, h2, hx, by simp⟩
/-- What is captured, by how many numbers are shown. -/
def Sh (n : Nat) (u : Nat → Nat) (s' : Nat) (N x4 x5 x0 : List UInt8) : Prop :=
  Pt n u 0 x0 ∧ ((s' = 1 ∧ x4 = [] ∧ x5 = [] ∧ N = x0) ∨ (s' = 2 ∧ ∃ x1, x4 = 46 :: x1 ∧ x5 = [] ∧ Pt n u 1 x1 ∧ N = x0 ++ (46 :: x1)) ∨ (s' = 3 ∧ ∃ x1 x2, x4 = 46 :: x1 ∧ x5 = 46 :: x2 ∧ Pt n u 1 x1 ∧ Pt n u 2 x2 ∧ N = x0 ++ (46 :: (x1 ++ (46 :: x2)))))
theorem nm_caps {s : ByteArray} {b1 op bl lt N pre mt b2 : List UInt8} {n s' : Nat} {u : Nat → Nat} (hu : ∀ i, u i ≤ 18446744073709551615) (hN : Nm n u s' N) (h1 : 1 ≤ s') (h3 : s' ≤ 3) (hT : s.data.toList = b1 ++ (op ++ (bl ++ (lt ++ (N ++ (dash pre ++ (mt ++ b2)))))))
    (hb1 : ∀ x ∈ b1, isb x.toNat = true) (hop : op ∈ opsL) (h0 : op = [] → bl = []) (hb : ∀ x ∈ bl, isb x.toNat = true) (hlt : isLt lt) (hw : pre = [] ∨ wds true pre = true) (hm : isMt mt) (hb2 : ∀ x ∈ b2, isb x.toNat = true) :
    ∃ x0 x4 x5, Caps s op (lt ++ (N ++ (dash pre ++ mt))) x0 x4 x5 pre ∧ Sh n u s' N x4 x5 x0 := by
  have c : s' = 1 ∨ s' = 2 ∨ s' = 3 := by omega
  rcases c with rfl | rfl | rfl
  · have hp := nm1 hN
    exact ⟨N, [], [], caps1 hT hb1 hop h0 hb hlt (hp.pt hu).1 (hp.pt hu).2 hw hm hb2, hp, .inl ⟨rfl, rfl, rfl, rfl⟩⟩
  · obtain ⟨x0, x1, p0, p1, rfl⟩ := nm2 hN
    have := caps2 (s := s) (by rw [hT]; simp) hb1 hop h0 hb hlt (p0.pt hu).1 (p0.pt hu).2 (p1.pt hu).1 (p1.pt hu).2 hw hm hb2
    refine ⟨x0, 46 :: x1, [], ?_, p0, .inr (.inl ⟨rfl, x1, rfl, rfl, p1, rfl⟩)⟩
    simpa using this
  · obtain ⟨x0, x1, x2, p0, p1, p2, rfl⟩ := nm3 hN
    have := caps3 (s := s) (by rw [hT]; simp) hb1 hop h0 hb hlt (p0.pt hu).1 (p0.pt hu).2 (p1.pt hu).1 (p1.pt hu).2 (p2.pt hu).1 (p2.pt hu).2 hw hm hb2
    refine ⟨x0, 46 :: x1, 46 :: x2, ?_, p0, .inr (.inr ⟨rfl, x1, x2, rfl, rfl, p1, p2, rfl⟩)⟩
    simpa using this
theorem capp (a b : ByteArray) : (a ++ b).data.toList = a.data.toList ++ b.data.toList := by simp
theorem nu0 : Nu [48] 0 := ⟨by simp, by decide, by kernel_rfl, by decide⟩
theorem pm0 : PM [] [] := ⟨.inl rfl, .inl rfl⟩
theorem nvA : NV ((⟨#[48, 46, 48, 46, 48]⟩ : ByteArray) ++ ba (dash [])) ((0 : Nat) : Int) ((0 : Nat) : Int) ((0 : Nat) : Int) (ba []) (ba []) :=
  (looseV_nv (fillz (lt := []) (p := []) (m := []) (by decide) (.inl rfl) nu0 nu0 nu0 pm0 (by rw [capp]; rfl))).1
theorem nvB {D : List UInt8} {a : Nat} (h : Nu D a) (hl : D.length ≤ 100) : NV ((ba D ++ (⟨#[46, 48, 46, 48]⟩ : ByteArray)) ++ ba (dash [])) (a : Int) ((0 : Nat) : Int) ((0 : Nat) : Int) (ba []) (ba []) := by
  have hd : ((ba D ++ (⟨#[46, 48, 46, 48]⟩ : ByteArray)) ++ ba (dash [])).data.toList = [] ++ (D ++ (46 :: ([48] ++ (46 :: ([48] ++ tailL [] []))))) := by rw [capp, capp, ba_data, ba_data]; simp [tailL, dash]
  refine (looseV_nv (fillz (lt := []) (p := []) (m := []) ?_ (.inl rfl) h nu0 nu0 pm0 hd)).1
  rw [size_eq, hd]
  simp [tailL]
  omega
theorem nvC {D E : List UInt8} {a b : Nat} (h : Nu D a) (k : Nu E b) (hl : D.length ≤ 100) (hl2 : E.length ≤ 100) : NV (((ba D ++ ba (46 :: E)) ++ (⟨#[46, 48]⟩ : ByteArray)) ++ ba (dash [])) (a : Int) (b : Int) ((0 : Nat) : Int) (ba []) (ba []) := by
  have hd : (((ba D ++ ba (46 :: E)) ++ (⟨#[46, 48]⟩ : ByteArray)) ++ ba (dash [])).data.toList = [] ++ (D ++ (46 :: (E ++ (46 :: ([48] ++ tailL [] []))))) := by rw [capp, capp, capp, ba_data, ba_data, ba_data]; simp [tailL, dash]
  refine (looseV_nv (fillz (lt := []) (p := []) (m := []) ?_ (.inl rfl) h k nu0 pm0 hd)).1
  rw [size_eq, hd]
  simp [tailL]
  omega
theorem mt_tail {pre mt : List UInt8} (hm : isMt mt) : ∃ m, dash pre ++ mt = tailL pre m ∧ (m = [] ∨ validMeta m = true) := by
  rcases hm with rfl | rfl
  · exact ⟨[], by unfold dash tailL; split <;> simp, .inl rfl⟩
  · exact ⟨[98, 46, 48, 49], by unfold dash tailL; split <;> simp [metaB], .inr (by kernel_rfl)⟩
theorem nvD {lt D E F pre mt : List UInt8} {a b c : Nat} (hlt : isLt lt) (h : Nu D a) (k : Nu E b) (l : Nu F c) (hp : pre = [] ∨ validPre pre = true) (hm : isMt mt) (hs : (lt ++ (D ++ (46 :: (E ++ (46 :: (F ++ (dash pre ++ mt))))))).length ≤ 256) :
    ∃ m, NV (ba (lt ++ (D ++ (46 :: (E ++ (46 :: (F ++ (dash pre ++ mt)))))))) (a : Int) (b : Int) (c : Int) (ba pre) m := by
  obtain ⟨m, e, hm'⟩ := mt_tail (pre := pre) hm
  exact ⟨ba m, (looseV_nv (fillz (lt := lt) (p := pre) (m := m) (by rw [ba_size]; exact hs) hlt h k l ⟨hp, hm'⟩ (by rw [ba_data, e]))).1⟩
theorem wds_pre {pre : List UInt8} (h : pre = [] ∨ validPre pre = true) : pre = [] ∨ wds true pre = true := by
  rcases h with h | h
  · exact .inl h
  · obtain ⟨a, b, e, ha, hne, hb⟩ := identAll_split (identAll_pre h)
    exact .inr ((wds_of pre a b e ha hb).2 hne)
theorem pre_asc {pre : List UInt8} (h : pre = [] ∨ validPre pre = true) : ∀ x ∈ dash pre, x.toNat < 128 := by
  intro x hx
  rcases h with rfl | h
  · cases hx
  · unfold dash at hx
    split at hx
    · cases hx
    · rcases List.mem_cons.1 hx with rfl | hx
      · decide
      · exact (ident_lt (identAll_bytes (identAll_pre h) hx)).1
theorem Nm.asc {n : Nat} {u : Nat → Nat} (hu : ∀ i, u i ≤ 18446744073709551615) : ∀ {i : Nat} {T : List UInt8}, Nm n u i T → ∀ x ∈ T, x.toNat < 128
  | 0, T, h => by rw [show T = [] from h]; simp
  | i + 1, T, h => by
    obtain ⟨T0, x, h0, hx, rfl⟩ := h
    intro y hy
    rcases List.mem_append.1 hy with hy | hy
    · exact Nm.asc hu h0 y hy
    · rcases List.mem_append.1 hy with hy | hy
      · split at hy
        · cases hy
        · rw [List.mem_singleton.1 hy]; decide
      · exact ptB_lt ((hx.pt hu).2 y hy)
theorem opsL_asc {op : List UInt8} (h : op ∈ opsL) : (∀ x ∈ op, x.toNat < 128) ∧ op.length ≤ 2 := by revert op; unfold opsL; decide
/-- A written term, with blanks about it, is read as its parts. -/
theorem wr_pco {s : ByteArray} {b1 op bl T b2 pre : List UInt8} {n a b c : Nat} (hn : n ≤ 3) (ha : a ≤ 18446744073709551615) (hb : b ≤ 18446744073709551615) (hc : c ≤ 18446744073709551615) (h3 : n < 3 → c = 0 ∧ pre = []) (h2 : n < 2 → b = 0) (h1 : n < 1 → a = 0)
    (hT : s.data.toList = b1 ++ (op ++ (bl ++ (T ++ b2)))) (hW : Wr n (num3 a b c) pre T) (hp : pre = [] ∨ validPre pre = true) (hpl : pre.length ≤ 64) (hb1 : ∀ x ∈ b1, isb x.toNat = true) (hl1 : b1.length ≤ 3) (hop : op ∈ opsL) (h0 : op = [] → bl = []) (hbl : ∀ x ∈ bl, isb x.toNat = true) (hbl2 : bl.length ≤ 2) (hb2 : ∀ x ∈ b2, isb x.toNat = true) (hl2 : b2.length ≤ 3) :
    PCo s (ba op) (decide (n = 1)) (decide (n < 3)) (decide (n = 2)) (a : Int) (b : Int) (c : Int) (ba pre) := by
  have hu := num3_le ha hb hc
  have hTl := hW.len hu hpl
  obtain ⟨lt, N, mt, s', hlt, hN, hns, hs1, hs3, hm, hm0, rfl⟩ := hW
  have hT' : s.data.toList = b1 ++ (op ++ (bl ++ (lt ++ (N ++ (dash pre ++ (mt ++ b2)))))) := by rw [hT]; simp
  have hol := (opsL_asc hop).2
  have hsz : s.size ≤ 200 := by
    rw [size_eq, hT]
    simp only [List.length_append] at hTl ⊢
    omega
  have hasc : ascB s = true := by
    refine all_asc fun x hx => ?_
    rw [hT'] at hx
    simp only [List.mem_append] at hx
    rcases hx with hx | hx | hx | hx | hx | hx | hx | hx
    · exact isb_lt (hb1 x hx)
    · exact (opsL_asc hop).1 x hx
    · exact isb_lt (hbl x hx)
    · exact asc_lt hlt x hx
    · exact hN.asc hu x hx
    · exact pre_asc hp x hx
    · rcases hm with rfl | rfl
      · cases hx
      · revert x; unfold metaB; decide
    · exact isb_lt (hb2 x hx)
  obtain ⟨x0, x4, x5, ⟨c', hmat, c1, c2, c3, c4, c5, c6⟩, hp0, hsh⟩ := nm_caps hu hN hs1 hs3 hT' hb1 hop h0 hbl hlt (wds_pre hp) hm hb2
  have hx0 := (hp0.pt hu).1
  have hs0 : 1 ≤ s.size := by
    have : 1 ≤ N.length := by
      have h := List.length_pos_iff.2 hx0
      rcases hsh with ⟨_, _, _, rfl⟩ | ⟨_, x1, _, _, _, rfl⟩ | ⟨_, x1, x2, _, _, _, _, rfl⟩
      · omega
      · simp; omega
      · simp; omega
    rw [size_eq, hT']
    simp only [List.length_append]
    omega
  have FF := Lib.hid (fun (W : World) (re : Nat) (hx : Rx W re consL 1 24 11 1 4) => cons_fss hsz hs0 hasc hmat W re hx)
  have X : Cap6 s (capts s c' 12) (ba op) (ba (lt ++ (N ++ (dash pre ++ mt)))) (ba x0) (ba x4) (ba x5) (ba (dash pre)) :=
    ⟨capts_at (by decide) c1, capts_at (by decide) c2, capts_at (by decide) c3, capts_at (by decide) c4, capts_at (by decide) c5, capts_at (by decide) c6, hs0, by rw [← c3]; have := capt_size s c' 3; omega, by rw [← c4]; have := capt_size s c' 4; omega, by rw [← c6]; have := capt_size s c' 6; omega⟩
  have hv := capt_size s c' 2
  rw [c2, ba_size] at hv
  intro w
  match n, hn, h3, h2, h1, hp0, hsh, hns with
  | 0, _, h3, h2, h1, hp0, hsh, _ =>
    obtain ⟨rfl, rfl⟩ := h3 (by decide)
    obtain rfl := h2 (by decide)
    obtain rfl := h1 (by decide)
    refine (parseA_calls s _ _ _ _ _ _ _ 0 0 0 (ba []) (ba []) w FF X (hp0.wild (by decide)) nvA).mono ?_
    rintro e w' ⟨⟨gc, g, rfl, h, k⟩, hb⟩
    exact ⟨⟨gc, g, _, _, _, rfl, h, k⟩, hb⟩
  | 1, _, h3, h2, _, hp0, hsh, _ =>
    obtain ⟨rfl, rfl⟩ := h3 (by decide)
    obtain rfl := h2 (by decide)
    have N0 : Nu x0 a := hp0.nu hu (by decide)
    have e0 : isXv (ba x0) = false ∧ (ba x0).data.toList ≠ [] := ⟨N0.notx, by rw [ba_data]; exact hx0⟩
    have l0 : x0.length ≤ 100 := by have := hp0.len hu; omega
    have kB : ∀ y, isXv (trimmed (ba (46 :: y))) = isXv (ba y) := fun y => by rw [trimmed_dot]
    rcases hsh with ⟨_, rfl, rfl, rfl⟩ | ⟨_, x1, rfl, rfl, p1, rfl⟩ | ⟨_, x1, x2, rfl, rfl, p1, p2, rfl⟩
    · refine (parseB1_calls s _ _ _ _ _ _ _ a 0 0 (ba []) (ba []) w FF X e0 rfl (nvB N0 l0)).mono ?_
      rintro e w' ⟨⟨gc, g, rfl, h, k⟩, hb⟩
      exact ⟨⟨gc, g, _, _, _, rfl, h, k⟩, hb⟩
    · refine (parseB2_calls s _ _ _ _ _ _ _ a 0 0 (ba []) (ba []) w FF X e0 ((kB x1).trans (p1.wild (by decide))) (nvB N0 l0)).mono ?_
      rintro e w' ⟨⟨gc, g, rfl, h, k⟩, hb⟩
      exact ⟨⟨gc, g, _, _, _, rfl, h, k⟩, hb⟩
    · refine (parseB2_calls s _ _ _ _ _ _ _ a 0 0 (ba []) (ba []) w FF X e0 ((kB x1).trans (p1.wild (by decide))) (nvB N0 l0)).mono ?_
      rintro e w' ⟨⟨gc, g, rfl, h, k⟩, hb⟩
      exact ⟨⟨gc, g, _, _, _, rfl, h, k⟩, hb⟩
  | 2, _, h3, _, _, hp0, hsh, hns =>
    obtain ⟨rfl, rfl⟩ := h3 (by decide)
    have N0 : Nu x0 a := hp0.nu hu (by decide)
    have e0 : isXv (ba x0) = false ∧ (ba x0).data.toList ≠ [] := ⟨N0.notx, by rw [ba_data]; exact hx0⟩
    have l0 : x0.length ≤ 100 := by have := hp0.len hu; omega
    have kB : ∀ y, isXv (trimmed (ba (46 :: y))) = isXv (ba y) := fun y => by rw [trimmed_dot]
    rcases hsh with ⟨h, _⟩ | ⟨_, x1, rfl, rfl, p1, rfl⟩ | ⟨_, x1, x2, rfl, rfl, p1, p2, rfl⟩
    · omega
    · have N1 : Nu x1 b := p1.nu hu (by decide)
      have l1 : x1.length ≤ 100 := by have := p1.len hu; omega
      refine (parseC1_calls s _ _ _ _ _ _ _ a b 0 (ba []) (ba []) w FF X e0 ⟨(kB x1).trans N1.notx, by rw [ba_data]; simp⟩ rfl (nvC N0 N1 l0 l1)).mono ?_
      rintro e w' ⟨⟨gc, g, rfl, h, k⟩, hb⟩
      exact ⟨⟨gc, g, _, _, _, rfl, h, k⟩, hb⟩
    · have N1 : Nu x1 b := p1.nu hu (by decide)
      have l1 : x1.length ≤ 100 := by have := p1.len hu; omega
      refine (parseC2_calls s _ _ _ _ _ _ _ a b 0 (ba []) (ba []) w FF X e0 ⟨(kB x1).trans N1.notx, by rw [ba_data]; simp⟩ ((kB x2).trans (p2.wild (by decide))) (nvC N0 N1 l0 l1)).mono ?_
      rintro e w' ⟨⟨gc, g, rfl, h, k⟩, hb⟩
      exact ⟨⟨gc, g, _, _, _, rfl, h, k⟩, hb⟩
  | 3, _, _, _, _, hp0, hsh, hns =>
    have N0 : Nu x0 a := hp0.nu hu (by decide)
    have e0 : isXv (ba x0) = false ∧ (ba x0).data.toList ≠ [] := ⟨N0.notx, by rw [ba_data]; exact hx0⟩
    have kB : ∀ y, isXv (trimmed (ba (46 :: y))) = isXv (ba y) := fun y => by rw [trimmed_dot]
    rcases hsh with ⟨h, _⟩ | ⟨h, _⟩ | ⟨_, x1, x2, rfl, rfl, p1, p2, rfl⟩
    · omega
    · omega
    · have N1 : Nu x1 b := p1.nu hu (by decide)
      have N2 : Nu x2 c := p2.nu hu (by decide)
      have ev : lt ++ (x0 ++ (46 :: (x1 ++ (46 :: x2))) ++ (dash pre ++ mt)) = lt ++ (x0 ++ (46 :: (x1 ++ (46 :: (x2 ++ (dash pre ++ mt)))))) := by simp
      rw [ev] at X hv
      obtain ⟨m, hnv⟩ := nvD hlt N0 N1 N2 hp hm (by omega)
      refine (parseD_calls s _ _ _ _ _ _ _ a b c (ba pre) m w FF X e0 ⟨(kB x1).trans N1.notx, by rw [ba_data]; simp⟩ ⟨(kB x2).trans N2.notx, by rw [ba_data]; simp⟩ hnv).mono ?_
      rintro e w' ⟨⟨gc, g, rfl, h, k⟩, hb⟩
      exact ⟨⟨gc, g, _, _, _, rfl, h, k⟩, hb⟩
end Go.Proofs.YtekkaknpgdgjjaaGreatDoor.H

/- ParseTerm of a written term gives the term. -/
namespace Go.Proofs.YtekkaknpgdgjjaaGreatDoor.H
open Go.RowKit Go.Proofs.YtekkaknpgdgjjaaGreatDoorW.PrintWords
set_option linter.unusedVariables false
set_option linter.unusedSimpArgs false
set_option maxRecDepth 100000

theorem opN_W {o : Int} (h0 : 0 ≤ o) (h8 : o < 8) {op : List UInt8} (h : op ∈ opW o) : opN op = o := by
  have c : o = 0 ∨ o = 1 ∨ o = 2 ∨ o = 3 ∨ o = 4 ∨ o = 5 ∨ o = 6 ∨ o = 7 := by omega
  rcases c with rfl | rfl | rfl | rfl | rfl | rfl | rfl | rfl <;> (revert op; decide)
theorem wr_term {s : ByteArray} {o : Int} {b1 op bl T b2 pre : List UInt8} {n a b c : Nat} (ho : 0 ≤ o ∧ o < 8) (hn : n ≤ 3) (ha : a ≤ 18446744073709551615) (hb : b ≤ 18446744073709551615) (hc : c ≤ 18446744073709551615) (h3 : n < 3 → c = 0 ∧ pre = []) (h2 : n < 2 → b = 0) (h1 : n < 1 → a = 0)
    (hT : s.data.toList = b1 ++ (op ++ (bl ++ (T ++ b2)))) (hW : Wr n (num3 a b c) pre T) (hp : pre = [] ∨ validPre pre = true) (hpl : pre.length ≤ 64) (hb1 : ∀ x ∈ b1, isb x.toNat = true) (hl1 : b1.length ≤ 3) (hop : op ∈ opW o) (h0 : op = [] → bl = []) (hbl : ∀ x ∈ bl, isb x.toNat = true) (hbl2 : bl.length ≤ 2) (hb2 : ∀ x ∈ b2, isb x.toNat = true) (hl2 : b2.length ≤ 3) (w : World) :
    Calls Tryz.prog 15 #[.string s] w fun e w' => e = .returned (.tuple #[.agg #[.int .i64 o, .int .i64 (n : Int), .int .u64 (a : Int), .int .u64 (b : Int), .int .u64 (c : Int), .string (ba pre)], .bool true]) ∧ Below w.heap.size w w' := by
  have hP := wr_pco hn ha hb hc h3 h2 h1 hT hW hp hpl hb1 hl1 (opW_ops o hop).1 h0 hbl hbl2 hb2 hl2
  have hk : Hid (∀ w, Calls Tryz.prog 37 #[.string (ba op)] w fun e w' => e = .returned (.int .i64 o) ∧ w' = w) := Lib.hid fun w => by
    have := opnum_calls op (opW_ops o hop).1 w
    rwa [opN_W ho.1 ho.2 hop] at this
  match n, hn, hP with
  | 0, _, hP => exact parseterm_calls s (ba op) false true false o 0 a b c (ba pre) hP (fun w g m o' hv => plaintermT0 g (ba op) o a b c (ba pre) m o' w hv hk) w
  | 1, _, hP => exact parseterm_calls s (ba op) true true false o 1 a b c (ba pre) hP (fun w g m o' hv => plaintermT1 g (ba op) o a b c (ba pre) m o' w hv hk) w
  | 2, _, hP => exact parseterm_calls s (ba op) false true true o 2 a b c (ba pre) hP (fun w g m o' hv => plaintermT2 g (ba op) o a b c (ba pre) m o' w hv hk) w
  | 3, _, hP => exact parseterm_calls s (ba op) false false false o 3 a b c (ba pre) hP (fun w g m o' hv => plaintermT3 g (ba op) o a b c (ba pre) m o' w hv hk) w
/-- A term's two texts are read as the term. -/
theorem tx_terms {o : Int} {t1 t2 pre : List UInt8} {n a b c : Nat} (ho : 0 ≤ o ∧ o < 8) (hn : n ≤ 3) (ha : a ≤ 18446744073709551615) (hb : b ≤ 18446744073709551615) (hc : c ≤ 18446744073709551615) (h3 : n < 3 → c = 0 ∧ pre = []) (h2 : n < 2 → b = 0) (h1 : n < 1 → a = 0)
    (hp : pre = [] ∨ validPre pre = true) (hpl : pre.length ≤ 64) (h : Tx o n (num3 a b c) pre t1 t2) :
    (∀ (b1 b2 : List UInt8) (w : World), (∀ x ∈ b1, isb x.toNat = true) → b1.length ≤ 3 → (∀ x ∈ b2, isb x.toNat = true) → b2.length ≤ 3 → Calls Tryz.prog 15 #[.string (ba (b1 ++ t1 ++ b2))] w fun e w' => e = .returned (.tuple #[.agg #[.int .i64 o, .int .i64 (n : Int), .int .u64 (a : Int), .int .u64 (b : Int), .int .u64 (c : Int), .string (ba pre)], .bool true]) ∧ Below w.heap.size w w')
    ∧ (∀ w : World, Calls Tryz.prog 15 #[.string (ba t2)] w fun e w' => e = .returned (.tuple #[.agg #[.int .i64 o, .int .i64 (n : Int), .int .u64 (a : Int), .int .u64 (b : Int), .int .u64 (c : Int), .string (ba pre)], .bool true]) ∧ Below w.heap.size w w')
    ∧ t1.length ≤ 141 ∧ t2.length ≤ 141 := by
  obtain ⟨op, bl, T, hop, h0, hbl, hbl2, hW, rfl, rfl⟩ := h
  have l1 := hW.len (num3_le ha hb hc) hpl
  have l2 := (opW_ops o hop).2
  refine ⟨fun b1 b2 w k1 k2 k3 k4 => ?_, fun w => ?_, by simp only [List.length_append]; omega, by simp only [List.length_append]; omega⟩
  · exact wr_term ho hn ha hb hc h3 h2 h1 (b1 := b1) (b2 := b2) (bl := bl) (by rw [ba_data]; simp) hW hp hpl k1 k2 hop h0 hbl hbl2 k3 k4 w
  · exact wr_term ho hn ha hb hc h3 h2 h1 (b1 := []) (b2 := []) (bl := []) (by rw [ba_data]; simp) hW hp hpl (by simp) (by simp) hop (fun _ => rfl) (by simp) (by simp) (by simp) (by simp) w
end Go.Proofs.YtekkaknpgdgjjaaGreatDoor.H
