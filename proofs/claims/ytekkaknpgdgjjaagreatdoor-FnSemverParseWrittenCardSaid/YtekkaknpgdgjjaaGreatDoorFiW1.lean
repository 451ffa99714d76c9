/- Texts of this claim, joined. -/
import Derived.Test.YtekkaknpgdgjjaaGreatDoorHaLXW1
import Derived.Test.YtekkaknpgdgjjaaGreatDoorWnW1
/- The loose reading of the texts that the law builds, plainly. -/
namespace Go.Proofs.YtekkaknpgdgjjaaGreatDoor.H
open Go.RowKit
set_option linter.unusedVariables false
set_option linter.unusedSimpArgs false
set_option linter.unnecessarySimpa false
set_option maxRecDepth 100000

theorem identB_idB (x : UInt8) (h : identB x = true) : idB x.toNat = true := by
  unfold identB digB at h
  unfold idB numB
  simp only [Bool.or_eq_true, Bool.and_eq_true, decide_eq_true_eq, beq_iff_eq] at h ⊢
  exact h
theorem digB_numB (x : UInt8) (h : digB x = true) : numB x.toNat = true := h
theorem ident_parts {l : List UInt8} (h : ident l = true) : l.all identB = true ∧ l ≠ [] := by
  unfold ident at h
  rw [Bool.and_eq_true, bne_iff_ne] at h
  exact h
/-- Words with points between them, each of identifier bytes. -/
theorem wds_of : ∀ (l h : List UInt8) (t : List (List UInt8)), parts 46 l = h :: t → h.all identB = true → t.all ident = true → wds false l = true ∧ (h ≠ [] → wds true l = true) := by
  intro l
  induction l with
  | nil =>
    intro h t e h1 h2
    cases e
    exact ⟨rfl, fun hn => absurd rfl hn⟩
  | cons x r ih =>
    intro h t e h1 h2
    obtain ⟨h', t', e'⟩ : ∃ h' t', parts 46 r = h' :: t' := by
      cases hp : parts 46 r with
      | nil => exact absurd hp (parts_ne 46 r)
      | cons a b => exact ⟨a, b, rfl⟩
    rw [parts_cons, e'] at e
    by_cases hx : x = 46
    · rw [if_pos hx] at e
      cases e
      rw [List.all_cons, Bool.and_eq_true] at h2
      obtain ⟨i1, i2⟩ := ident_parts h2.1
      refine ⟨?_, fun hn => absurd rfl hn⟩
      rw [wds, if_neg (by rw [hx]; decide), if_pos ⟨by rw [hx]; rfl, rfl⟩]
      exact (ih h' t' e' i1 h2.2).2 i2
    · rw [if_neg hx] at e
      simp only [consHead, List.cons.injEq] at e
      obtain ⟨rfl, rfl⟩ := e
      rw [List.all_cons, Bool.and_eq_true] at h1
      have hi := identB_idB x h1.1
      have := (ih h' t' e' h1.2 h2).1
      refine ⟨by rw [wds, if_pos hi]; exact this, fun _ => by rw [wds, if_pos hi]; exact this⟩
theorem pre_of (rest : List UInt8) (hr : preEnd false rest = true) : ∀ (l h : List UInt8) (t : List (List UInt8)), parts 46 l = h :: t → h.all identB = true → t.all ident = true → preEnd false (l ++ rest) = true ∧ (h ≠ [] → preEnd true (l ++ rest) = true) := by
  intro l
  induction l with
  | nil =>
    intro h t e h1 h2
    cases e
    exact ⟨hr, fun hn => absurd rfl hn⟩
  | cons x r ih =>
    intro h t e h1 h2
    obtain ⟨h', t', e'⟩ : ∃ h' t', parts 46 r = h' :: t' := by
      cases hp : parts 46 r with
      | nil => exact absurd hp (parts_ne 46 r)
      | cons a b => exact ⟨a, b, rfl⟩
    rw [parts_cons, e'] at e
    by_cases hx : x = 46
    · rw [if_pos hx] at e
      cases e
      rw [List.all_cons, Bool.and_eq_true] at h2
      obtain ⟨i1, i2⟩ := ident_parts h2.1
      refine ⟨?_, fun hn => absurd rfl hn⟩
      rw [List.cons_append, preEnd, if_neg (by rw [hx]; decide), if_pos ⟨by rw [hx]; rfl, rfl⟩]
      exact (ih h' t' e' i1 h2.2).2 i2
    · rw [if_neg hx] at e
      simp only [consHead, List.cons.injEq] at e
      obtain ⟨rfl, rfl⟩ := e
      rw [List.all_cons, Bool.and_eq_true] at h1
      have hi := identB_idB x h1.1
      have := (ih h' t' e' h1.2 h2).1
      refine ⟨by rw [List.cons_append, preEnd, if_pos hi]; exact this, fun _ => by rw [List.cons_append, preEnd, if_pos hi]; exact this⟩
theorem parts_bytes : ∀ (l : List UInt8) (x : UInt8), x ∈ l → x = 46 ∨ ∃ q ∈ parts 46 l, x ∈ q := by
  intro l
  induction l with
  | nil => intro x hx; cases hx
  | cons y r ih =>
    intro x hx
    rw [parts_cons]
    by_cases hy : y = 46
    · rw [if_pos hy]
      rcases List.mem_cons.1 hx with rfl | hx
      · exact .inl hy
      · rcases ih x hx with h | ⟨q, hq, hxq⟩
        · exact .inl h
        · exact .inr ⟨q, List.mem_cons_of_mem _ hq, hxq⟩
    · rw [if_neg hy]
      cases hp : parts 46 r with
      | nil => exact absurd hp (parts_ne 46 r)
      | cons a b =>
        rw [consHead]
        rcases List.mem_cons.1 hx with rfl | hx
        · exact .inr ⟨_, List.mem_cons_self .., List.mem_cons_self ..⟩
        · rcases ih x hx with h | ⟨q, hq, hxq⟩
          · exact .inl h
          · rw [hp] at hq
            rcases List.mem_cons.1 hq with rfl | hq
            · exact .inr ⟨_, List.mem_cons_self .., List.mem_cons_of_mem _ hxq⟩
            · exact .inr ⟨q, List.mem_cons_of_mem _ hq, hxq⟩
def identAll (l : List UInt8) : Prop := (parts 46 l).all ident = true
theorem identAll_pre {l : List UInt8} (h : validPre l = true) : identAll l := by
  unfold validPre at h
  unfold identAll
  rw [List.all_eq_true] at h ⊢
  intro q hq
  have := h q hq
  unfold preIdent at this
  rw [Bool.and_eq_true] at this
  exact this.1
theorem identAll_bytes {l : List UInt8} (h : identAll l) {x : UInt8} (hx : x ∈ l) : x = 46 ∨ identB x = true := by
  rcases parts_bytes l x hx with h' | ⟨q, hq, hxq⟩
  · exact .inl h'
  · exact .inr (List.all_eq_true.1 (ident_parts (List.all_eq_true.1 h q hq)).1 x hxq)
theorem identAll_split {l : List UInt8} (h : identAll l) : ∃ a b, parts 46 l = a :: b ∧ a.all identB = true ∧ a ≠ [] ∧ b.all ident = true := by
  cases hp : parts 46 l with
  | nil => exact absurd hp (parts_ne 46 l)
  | cons a b =>
    unfold identAll at h
    rw [hp, List.all_cons, Bool.and_eq_true] at h
    exact ⟨a, b, rfl, (ident_parts h.1).1, (ident_parts h.1).2, h.2⟩
theorem ident_lt {x : UInt8} (h : x = 46 ∨ identB x = true) : x.toNat < 128 ∧ x ≠ 43 := by
  rcases h with rfl | h
  · decide
  · refine ⟨idB_lt (identB_idB x h), fun e => ?_⟩
    rw [e] at h
    revert h
    decide
/-- What stands behind the numbers. -/
def tailL (p m : List UInt8) : List UInt8 := (if p = [] then [] else 45 :: p) ++ (if m = [] then [] else 43 :: m)
theorem pre43 (m : List UInt8) (hm : wds true m = true) : preEnd false (43 :: m) = true := by
  rw [preEnd, if_neg (by decide), if_neg (by decide), hm]
  rfl
theorem tail_ok {p m : List UInt8} (hp : p = [] ∨ identAll p) (hm : m = [] ∨ identAll m) : tailOk (tailL p m) = true := by
  have hw : m ≠ [] → wds true m = true := by
    intro h
    rcases hm with h' | h'
    · exact absurd h' h
    · obtain ⟨a, b, e, h1, h2, h3⟩ := identAll_split h'
      exact (wds_of m a b e h1 h3).2 h2
  have hrest : preEnd false (if m = [] then [] else 43 :: m) = true := by
    by_cases h : m = []
    · rw [if_pos h]; rfl
    · rw [if_neg h]; exact pre43 m (hw h)
  unfold tailL
  by_cases h0 : p = []
  · rw [if_pos h0, List.nil_append]
    by_cases h : m = []
    · rw [if_pos h]; rfl
    · rw [if_neg h, tailOk, if_neg (by decide), hw h]; rfl
  · rw [if_neg h0, List.cons_append, tailOk, if_pos (by decide)]
    rcases hp with h' | h'
    · exact absurd h' h0
    · obtain ⟨a, b, e, h1, h2, h3⟩ := identAll_split h'
      exact (pre_of _ hrest p a b e h1 h3).2 h2
theorem preLen_app (m : List UInt8) : ∀ (p : List UInt8), (∀ x ∈ p, x ≠ 43) → preLen (p ++ (if m = [] then [] else 43 :: m)) = p.length := by
  intro p
  induction p with
  | nil =>
    intro _
    by_cases h : m = []
    · rw [if_pos h]; rfl
    · rw [if_neg h, List.nil_append, preLen, if_pos (by decide)]; rfl
  | cons x p ih =>
    intro h
    rw [List.cons_append, preLen, if_neg (show ¬ x.toNat = 43 from fun e => h x (List.mem_cons_self ..) (UInt8.toNat_inj.1 (by rw [e]; rfl))), ih (fun y hy => h y (List.mem_cons_of_mem _ hy))]
    rfl
/-! The captured texts -/
theorem capt_ba {s : ByteArray} {c : List Int} {i x y : Nat} {A M R : List UInt8} (h0 : rdI c ((2 * i : Nat) : Int) = ((x : Nat) : Int)) (h1 : rdI c ((2 * i + 1 : Nat) : Int) = ((y : Nat) : Int)) (hT : s.data.toList = A ++ (M ++ R)) (hx : x = A.length) (hy : y = A.length + M.length) : capt s c i = ba M := by
  unfold capt
  rw [h0, h1, if_pos (by omega), Int.toNat_natCast, Int.toNat_natCast, extract_ba, hT, hx, hy, List.drop_left, show A.length + M.length - A.length = M.length by omega, List.take_left]
theorem capt_none {s : ByteArray} {c : List Int} {i : Nat} (h0 : rdI c ((2 * i : Nat) : Int) = -1) : capt s c i = ⟨#[]⟩ := by
  unfold capt
  rw [h0, if_neg (by decide)]
theorem tail_caps {s : ByteArray} {c : List Int} {A p m : List UInt8} (hT : s.data.toList = A ++ tailL p m) (hh : ∀ x ∈ tailW s.data.toList.length A.length (tailL p m), rdI c (x.1 : Int) = x.2) (hp : ∀ x ∈ p, x ≠ 43) : capt s c 5 = ba p ∧ capt s c 8 = ba m := by
  by_cases h0 : p = []
  · subst h0
    by_cases h1 : m = []
    · subst h1
      exact ⟨capt_none (hh (10, -1) (List.mem_cons_self ..)), capt_none (hh (16, -1) (by simp [tailL, tailW]))⟩
    · have e : tailL [] m = 43 :: m := by simp [tailL, h1]
      rw [e] at hh hT
      have eW : tailW s.data.toList.length A.length (43 :: m) = [(10, -1), (11, -1), (16, ((A.length + 1 : Nat) : Int)), (17, (s.data.toList.length : Int))] := by rw [tailW, if_neg (by decide)]
      rw [eW] at hh
      refine ⟨capt_none (hh (10, -1) (by simp)), ?_⟩
      refine capt_ba (A := A ++ [43]) (M := m) (R := []) (hh (16, ((A.length + 1 : Nat) : Int)) (by simp)) (hh (17, (s.data.toList.length : Int)) (by simp)) (by rw [hT]; simp) (by simp) (by rw [hT]; simp; omega)
  · obtain ⟨rest, hrest⟩ : ∃ rest, (if m = [] then [] else 43 :: m) = rest := ⟨_, rfl⟩
    have e : tailL p m = 45 :: (p ++ rest) := by rw [tailL, if_neg h0, hrest]; rfl
    have hl := preLen_app m p hp
    rw [hrest] at hl
    rw [e] at hh hT
    rw [tailW, if_pos (by decide), hl] at hh
    have c10 := hh (10, ((A.length + 1 : Nat) : Int)) (by simp)
    have c11 := hh (11, ((A.length + 1 + p.length : Nat) : Int)) (by simp)
    refine ⟨capt_ba (A := A ++ [45]) (M := p) (R := rest) c10 c11 (by rw [hT]; simp) (by simp) (by simp), ?_⟩
    by_cases h1 : m = []
    · rw [if_pos h1] at hrest
      subst hrest h1
      rw [if_neg (by simp)] at hh
      exact capt_none (hh (16, -1) (by simp))
    · rw [if_neg h1] at hrest
      subst hrest
      rw [if_pos (by simp)] at hh
      refine capt_ba (A := A ++ 45 :: (p ++ [43])) (M := m) (R := []) (hh (16, ((A.length + 1 + p.length + 1 : Nat) : Int)) (by simp)) (hh (17, (s.data.toList.length : Int)) (by simp)) (by rw [hT]; simp) (by simp; omega) (by rw [hT]; simp; omega)
theorem rn_txt (s : ByteArray) : rn s = txt s.data.toList := by
  funext i
  unfold rn txt
  by_cases h : i < s.size
  · obtain ⟨hh, hb⟩ := bt_data s i h
    rw [if_pos h, hb, List.getElem?_eq_getElem hh]
  · rw [if_neg h, List.getElem?_eq_none (by rw [← size_eq]; omega)]
theorem preV_of {p : List UInt8} (hs : p.length ≤ 2147483647) (h : p = [] ∨ validPre p = true) : preV (ba p) = true := by
  unfold preV
  rw [ba_data, ba_size]
  rcases h with h | h
  · rw [h]; rfl
  · rw [Bool.or_eq_true, Bool.and_eq_true, decide_eq_true_eq, decide_eq_true_eq]
    refine .inr ⟨hs, ?_⟩
    rw [List.all_map, List.all_eq_true]
    intro q hq
    have := List.all_eq_true.1 h q hq
    show (partErr (ba q) == 0) = true
    rw [partErr_eq, (pErr_zero q).2 this]
    rfl
theorem metaV_of {m : List UInt8} (hs : m.length ≤ 2147483647) (h : m = [] ∨ validMeta m = true) : metaV (ba m) = true := by
  unfold metaV
  rw [ba_data, ba_size]
  rcases h with h | h
  · rw [h]; rfl
  · rw [Bool.or_eq_true, Bool.and_eq_true, decide_eq_true_eq, decide_eq_true_eq]
    refine .inr ⟨hs, ?_⟩
    rw [List.all_map, List.all_eq_true]
    intro q hq
    obtain ⟨h1, h2⟩ := ident_parts (List.all_eq_true.1 h q hq)
    show metaPart (ba q) = true
    unfold metaPart
    rw [only_allowed, ba_data, h1, Bool.and_true, bne_iff_ne]
    exact h2
theorem trimmed_dot (d : List UInt8) : trimmed (ba (46 :: d)) = ba d := by
  unfold trimmed
  rw [ba_data]
  simp [Lib.trimPrefix, Lib.hasPrefix, ba]
theorem dec_numB (u : Nat) : ∀ x ∈ Lib.decDigits u, numB x.toNat = true := fun x hx => digB_numB x (List.all_eq_true.1 (dec_all u) x hx)
/-- What is asked of a prerelease and of metadata. -/
structure PM (p m : List UInt8) : Prop where
  pre : p = [] ∨ validPre p = true
  mt : m = [] ∨ validMeta m = true
theorem PM.idp {p m : List UInt8} (h : PM p m) : p = [] ∨ identAll p := h.pre.imp_right identAll_pre
theorem PM.idm {p m : List UInt8} (h : PM p m) : m = [] ∨ identAll m := h.mt
theorem PM.no43 {p m : List UInt8} (h : PM p m) : ∀ x ∈ p, x ≠ 43 := by
  intro x hx
  rcases h.idp with h | h
  · rw [h] at hx; cases hx
  · exact (ident_lt (identAll_bytes h hx)).2
theorem PM.asc {p m : List UInt8} (h : PM p m) : ∀ x ∈ tailL p m, x.toNat < 128 := by
  intro x hx
  have q : ∀ l : List UInt8, (l = [] ∨ identAll l) → ∀ x ∈ l, x.toNat < 128 := by
    intro l hl x hx
    rcases hl with h | h
    · rw [h] at hx; cases hx
    · exact (ident_lt (identAll_bytes h hx)).1
  unfold tailL at hx
  rcases List.mem_append.1 hx with hx | hx
  · split at hx
    · cases hx
    · rcases List.mem_cons.1 hx with rfl | hx
      · decide
      · exact q p h.idp x hx
  · split at hx
    · cases hx
    · rcases List.mem_cons.1 hx with rfl | hx
      · decide
      · exact q m h.idm x hx
/-- The reading, out of what the expression captures. -/
theorem looseV_of {s : ByteArray} {W : Pl} {a b d : Nat} {p m : List UInt8} (hs : s.size ≤ 256) (h1 : 1 ≤ s.size) (ha : ascB s = true) (hA : Acc looseL (txt s.data.toList) s.data.toList.length 20 1 0 L0 W)
    (hx : ∀ c, (∀ x ∈ W, rdI c (x.1 : Int) = x.2) → pu (capt s c 1) = some a ∧ numV (capt s c 2) = some b ∧ numV (capt s c 3) = some d ∧ capt s c 5 = ba p ∧ capt s c 8 = ba m) (hpm : PM p m) (hp : p.length ≤ 2147483647) (hm : m.length ≤ 2147483647) :
    looseV s = some (a, b, d, ba p, ba m) := by
  obtain ⟨c, hc, hh⟩ := hA (c0 20) L0_has
  obtain ⟨x1, x2, x3, x5, x8⟩ := hx c hh.2
  rw [← rn_txt, ← size_eq] at hc
  unfold looseV
  rw [if_pos ⟨hs, h1, ha⟩]
  have hc' : mat looseL (rn s) s.size (40 * (s.size + 1)) 1 0 (c0 20) = some (some c) := hc
  rw [hc']
  show fromCaps s c = _
  unfold fromCaps
  rw [x1, x2, x3, x5, x8]
  show (if _ then _ else _) = _
  rw [if_pos ⟨preV_of hp hpm.pre, metaV_of hm hpm.mt⟩]
theorem all_asc {s : ByteArray} (h : ∀ x ∈ s.data.toList, x.toNat < 128) : ascB s = true := List.all_eq_true.2 fun x hx => decide_eq_true (h x hx)
theorem asc_lt {lt : List UInt8} (h : lt = [] ∨ lt = [118]) : ∀ x ∈ lt, x.toNat < 128 := by
  rcases h with rfl | rfl
  · intro x hx; cases hx
  · intro x hx
    rcases List.mem_cons.1 hx with rfl | hx
    · decide
    · cases hx
end Go.Proofs.YtekkaknpgdgjjaaGreatDoor.H

/- Loose reading where a number may have a zero ahead. -/
namespace Go.Proofs.YtekkaknpgdgjjaaGreatDoor.H
open Go.RowKit Go.Proofs.YtekkaknpgdgjjaaGreatDoorW.PrintWords
set_option linter.unusedVariables false
set_option linter.unusedSimpArgs false

/-- A numeral of the number a. -/
structure Nu (D : List UInt8) (a : Nat) : Prop where
  ne : D ≠ []
  all : ∀ x ∈ D, numB x.toNat = true
  val : pu (ba D) = some a
  len : D.length ≤ 1000
theorem Nu.max {D : List UInt8} {a : Nat} (h : Nu D a) : a ≤ 18446744073709551615 := pu_max h.val
theorem Nu.dec {a : Nat} (ha : a ≤ 18446744073709551615) (hl : (Lib.decDigits a).length ≤ 20) : Nu (Lib.decDigits a) a := ⟨dec_ne a, dec_numB a, dec_pu a ha, by omega⟩
theorem pu_zero (D : List UInt8) (h : D ≠ []) : pu (ba (48 :: D)) = pu (ba D) := by
  unfold pu Lib.parseUintB
  rw [ba_data, ba_data, if_neg h, if_neg (by simp), Lib.parseUintM, if_pos (by decide), if_neg (by decide), if_neg (by simp)]
  rfl
theorem Nu.zero {D : List UInt8} {a : Nat} (h : Nu D a) (hl : D.length ≤ 999) : Nu (48 :: D) a := by
  refine ⟨by simp, fun x hx => ?_, (pu_zero D h.ne).trans h.val, by rw [List.length_cons]; omega⟩
  rcases List.mem_cons.1 hx with rfl | hx
  · rfl
  · exact h.all x hx
theorem Nu.asc {D : List UInt8} {a : Nat} (h : Nu D a) : ∀ x ∈ D, x.toNat < 128 := fun x hx => numB_lt (h.all x hx)
theorem Nu.dot {D : List UInt8} {a : Nat} (h : Nu D a) : numV (ba (46 :: D)) = some a := by
  unfold numV
  rw [ba_data, if_neg (by simp), trimmed_dot, ba_size, if_pos (by have := h.len; omega), h.val]
theorem fillz {s : ByteArray} {lt p m D E F : List UInt8} {a b d : Nat} (hs : s.size ≤ 256) (hlt : lt = [] ∨ lt = [118]) (hD : Nu D a) (hE : Nu E b) (hF : Nu F d) (hpm : PM p m) (hT : s.data.toList = lt ++ (D ++ (46 :: (E ++ (46 :: (F ++ tailL p m)))))) : looseV s = some (a, b, d, ba p, ba m) := by
  have hlen : s.size = lt.length + (D.length + (1 + (E.length + (1 + (F.length + (tailL p m).length))))) := by rw [size_eq, hT]; simp; omega
  have hne := List.length_pos_iff.2 hD.ne
  have tl : p.length ≤ (tailL p m).length ∧ m.length ≤ (tailL p m).length := by unfold tailL; split <;> split <;> simp_all <;> omega
  refine looseV_of hs (by omega) (all_asc fun x hx => ?_) (loose3 hT hlt hD.ne hD.all hE.ne hE.all hF.ne hF.all (tail_ok hpm.idp hpm.idm)) (fun c hW => ?_) hpm (by omega) (by omega)
  · rw [hT] at hx
    rcases List.mem_append.1 hx with hx | hx
    · exact asc_lt hlt x hx
    · rcases List.mem_append.1 hx with hx | hx
      · exact hD.asc x hx
      · rcases List.mem_cons.1 hx with rfl | hx
        · decide
        · rcases List.mem_append.1 hx with hx | hx
          · exact hE.asc x hx
          · rcases List.mem_cons.1 hx with rfl | hx
            · decide
            · rcases List.mem_append.1 hx with hx | hx
              · exact hF.asc x hx
              · exact hpm.asc x hx
  · have e1 : capt s c 1 = ba D := capt_ba (hW (2, (lt.length : Int)) (by simp)) (hW (3, ((lt.length + D.length : Nat) : Int)) (by simp)) hT rfl rfl
    have e2 : capt s c 2 = ba (46 :: E) := capt_ba (A := lt ++ D) (R := 46 :: (F ++ tailL p m)) (hW (4, ((lt.length + D.length : Nat) : Int)) (by simp)) (hW (5, ((lt.length + D.length + 1 + E.length : Nat) : Int)) (by simp)) (by rw [hT]; simp) (by simp) (by simp; omega)
    have e3 : capt s c 3 = ba (46 :: F) := capt_ba (A := lt ++ (D ++ (46 :: E))) (R := tailL p m) (hW (6, ((lt.length + D.length + 1 + E.length : Nat) : Int)) (by simp)) (hW (7, ((lt.length + D.length + 1 + E.length + 1 + F.length : Nat) : Int)) (by simp)) (by rw [hT]; simp) (by simp; omega) (by simp; omega)
    obtain ⟨e5, e8⟩ := tail_caps (p := p) (m := m) (A := lt ++ (D ++ (46 :: (E ++ (46 :: F))))) (by rw [hT]; simp) (fun x hx => hW x (by
      have el : (lt ++ (D ++ (46 :: (E ++ (46 :: F))))).length = lt.length + D.length + 1 + E.length + 1 + F.length := by simp; omega
      rw [el] at hx; simp only [List.mem_cons]; right; right; right; right; right; right; exact hx)) hpm.no43
    exact ⟨by rw [e1]; exact hD.val, by rw [e2]; exact hE.dot, by rw [e3]; exact hF.dot, e5, e8⟩
end Go.Proofs.YtekkaknpgdgjjaaGreatDoor.H
