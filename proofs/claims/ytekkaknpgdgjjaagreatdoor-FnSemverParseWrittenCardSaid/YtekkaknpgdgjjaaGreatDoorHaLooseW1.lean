/- The loose expression of versions: which texts it takes, and what it captures. -/
import Derived.Test.YtekkaknpgdgjjaaGreatDoorHaLookW1
namespace Go.Proofs.YtekkaknpgdgjjaaGreatDoor.H
open Go.RowKit
set_option linter.unusedVariables false
set_option linter.unusedSimpArgs false
set_option linter.unnecessarySimpa false

def looseL : List Bi :=
   [⟨5, 0, 0, []⟩,
    ⟨3, 3, 4, []⟩,
    ⟨8, 4, 0, [118]⟩,
    ⟨0, 2, 4, []⟩,
    ⟨2, 5, 2, []⟩,
    ⟨7, 6, 0, [48, 57]⟩,
    ⟨0, 5, 7, []⟩,
    ⟨2, 13, 3, []⟩,
    ⟨2, 9, 4, []⟩,
    ⟨8, 10, 0, [46]⟩,
    ⟨7, 11, 0, [48, 57]⟩,
    ⟨0, 10, 12, []⟩,
    ⟨2, 19, 5, []⟩,
    ⟨0, 8, 19, []⟩,
    ⟨2, 15, 6, []⟩,
    ⟨8, 16, 0, [46]⟩,
    ⟨7, 17, 0, [48, 57]⟩,
    ⟨0, 16, 18, []⟩,
    ⟨2, 33, 7, []⟩,
    ⟨0, 14, 33, []⟩,
    ⟨2, 21, 8, []⟩,
    ⟨8, 22, 0, [45]⟩,
    ⟨2, 23, 10, []⟩,
    ⟨7, 24, 0, [45, 45, 48, 57, 65, 90, 97, 122]⟩,
    ⟨0, 23, 30, []⟩,
    ⟨2, 26, 12, []⟩,
    ⟨8, 27, 0, [46]⟩,
    ⟨7, 28, 0, [45, 45, 48, 57, 65, 90, 97, 122]⟩,
    ⟨0, 27, 29, []⟩,
    ⟨2, 30, 13, []⟩,
    ⟨0, 25, 31, []⟩,
    ⟨2, 32, 11, []⟩,
    ⟨2, 47, 9, []⟩,
    ⟨0, 20, 47, []⟩,
    ⟨2, 35, 14, []⟩,
    ⟨8, 36, 0, [43]⟩,
    ⟨2, 37, 16, []⟩,
    ⟨7, 38, 0, [45, 45, 48, 57, 65, 90, 97, 122]⟩,
    ⟨0, 37, 44, []⟩,
    ⟨2, 40, 18, []⟩,
    ⟨8, 41, 0, [46]⟩,
    ⟨7, 42, 0, [45, 45, 48, 57, 65, 90, 97, 122]⟩,
    ⟨0, 41, 43, []⟩,
    ⟨2, 44, 19, []⟩,
    ⟨0, 39, 45, []⟩,
    ⟨2, 46, 17, []⟩,
    ⟨2, 48, 15, []⟩,
    ⟨0, 34, 48, []⟩,
    ⟨3, 49, 8, []⟩,
    ⟨4, 0, 0, []⟩]
/-! Bytes -/
def numB (b : Nat) : Bool := decide (48 ≤ b) && decide (b ≤ 57)
def idB (b : Nat) : Bool := numB b || (decide (65 ≤ b) && decide (b ≤ 90)) || (decide (97 ≤ b) && decide (b ≤ 122)) || b == 45
/-- A text's runes; -1 behind its end. -/
def txt (T : List UInt8) (i : Nat) : Int := match T[i]? with
  | some x => (x.toNat : Int)
  | none => -1
theorem txt_end {T : List UInt8} : txt T T.length = -1 := by simp [txt]
theorem txt_at {T : List UInt8} {p j : Nat} {D R : List UInt8} (h : T.drop p = D ++ R) (hj : j < D.length) : txt T (p + j) = (D[j].toNat : Int) := by
  have e : T[p + j]? = some D[j] := by
    rw [← List.getElem?_drop, h, List.getElem?_append_left hj, List.getElem?_eq_getElem hj]
  simp [txt, e]
theorem txt_head {T : List UInt8} {p : Nat} {x : UInt8} {R : List UInt8} (h : T.drop p = x :: R) : txt T p = (x.toNat : Int) ∧ p < T.length ∧ T.drop (p + 1) = R := by
  have e : T[p]? = some x := by
    have := List.getElem?_drop (xs := T) (i := p) (j := 0)
    rw [h] at this
    simpa using this.symm
  refine ⟨by simp [txt, e], (List.getElem?_eq_some_iff.1 e).1, ?_⟩
  have := List.drop_drop (l := T) (i := 1) (j := p)
  rw [h] at this
  simpa using this.symm
theorem txt_nil {T : List UInt8} {p : Nat} (h : T.drop p = []) (hp : p ≤ T.length) : p = T.length := by
  have := List.drop_eq_nil_iff.1 h
  omega
def chk (q : Nat) (cls : Nat → Bool) (cs : List Nat) (o : Nat) : Bool := (List.range 128).all fun b => !cls b || decide (lk looseL false (b : Int) 40 q = some (.go cs o))
theorem tab {T : List UInt8} {q o p : Nat} {cls : Nat → Bool} {cs : List Nat} (h : chk q cls cs o = true) {x : UInt8} (hx : txt T p = (x.toNat : Int)) (hc : cls x.toNat = true) (h7 : x.toNat < 128) (hp : p ≠ 0) : lk looseL (p == 0) (txt T p) 40 q = some (.go cs o) := by
  have := List.all_eq_true.1 h x.toNat (List.mem_range.2 h7)
  rw [hc, Bool.not_true, Bool.false_or, decide_eq_true_eq] at this
  rw [hx, beq_eq_false_iff_ne.2 hp]
  exact this
def chkEnd (q : Nat) (cs : List Nat) : Bool := decide (lk looseL false (-1) 40 q = some (.acc cs))
theorem tabEnd {T : List UInt8} {q p : Nat} {cs : List Nat} (h : chkEnd q cs = true) (hx : txt T p = -1) (hp : p ≠ 0) : lk looseL (p == 0) (txt T p) 40 q = some (.acc cs) := by
  rw [hx, beq_eq_false_iff_ne.2 hp]
  exact of_decide_eq_true h
theorem idB_lt {b : Nat} (h : idB b = true) : b < 128 := by
  simp only [idB, numB, Bool.or_eq_true, Bool.and_eq_true, decide_eq_true_eq, beq_iff_eq] at h
  omega
theorem numB_lt {b : Nat} (h : numB b = true) : b < 128 := by
  simp only [numB, Bool.and_eq_true, decide_eq_true_eq] at h
  omega
/-- Words of identifiers with points between them; fresh: at the beginning of one. -/
def wds : Bool → List UInt8 → Bool
  | fresh, [] => !fresh
  | fresh, x :: l => if idB x.toNat then wds false l else if x.toNat = 46 ∧ fresh = false then wds true l else false
abbrev Pl := List (Nat × Int)
theorem upd_lt {cs : List Nat} {pos n : Nat} {l : Pl} (hcs : ∀ i ∈ cs, i < n) (hl : ∀ p ∈ l, p.1 < n) : ∀ p ∈ upd cs pos l, p.1 < n := by
  intro p hp
  unfold upd at hp
  rcases List.mem_append.1 hp with hp | hp
  · obtain ⟨i, hi, rfl⟩ := List.mem_map.1 hp
    exact hcs i hi
  · exact hl p (List.mem_filter.1 hp).1
theorem upd_new {cs : List Nat} {pos i : Nat} {l : Pl} (h : i ∈ cs) : (i, (pos : Int)) ∈ upd cs pos l := List.mem_append_left _ (List.mem_map.2 ⟨i, h, rfl⟩)
theorem upd_old {cs : List Nat} {pos : Nat} {l : Pl} {p : Nat × Int} (h : p ∈ l) (hn : cs.contains p.1 = false) : p ∈ upd cs pos l := List.mem_append_right _ (List.mem_filter.2 ⟨h, by rw [hn]; rfl⟩)
/-- Known and not to be touched. -/
def Kept (l : Pl) (bad : List Nat) (p : Nat × Int) : Prop := p ∈ l ∧ bad.contains p.1 = false
theorem not_mem_of {bad cs : List Nat} {i : Nat} (hb : bad.contains i = false) (hcs : ∀ j ∈ cs, bad.contains j = true) : cs.contains i = false := by
  cases hc : cs.contains i with
  | false => rfl
  | true =>
    have := hcs i (by simpa using hc)
    rw [hb] at this
    cases this
theorem Kept.upd {l : Pl} {bad cs : List Nat} {pos : Nat} {p : Nat × Int} (h : Kept l bad p) (hcs : ∀ i ∈ cs, bad.contains i = true) : Kept (upd cs pos l) bad p := ⟨upd_old h.1 (not_mem_of h.2 hcs), h.2⟩
theorem Kept.sub {l : Pl} {bad bad' : List Nat} {p : Nat × Int} (h : Kept l bad p) (hb : ∀ i ∈ bad', bad.contains i = true) : Kept l bad' p := ⟨h.1, not_mem_of h.2 hb⟩

section
variable {T : List UInt8}
/-- The end: captures told by the instruction that ends. -/
theorem fin_want {q p : Nat} {cs : List Nat} {W l : Pl} (hp0 : p ≠ 0) (hp : p = T.length) (hl : ∀ x ∈ l, x.1 < 20) (hcs : ∀ i ∈ cs, i < 20) (he : chkEnd q cs = true) (hW : ∀ x ∈ W, (x.1 ∈ cs ∧ x.1 ≠ 1 ∧ x.2 = (p : Int)) ∨ Kept l (1 :: cs) x) :
    Acc looseL (txt T) T.length 20 q p l W := by
  subst hp
  refine Acc.weak (Acc.fin (Nat.le_refl _) (by decide) (tabEnd he txt_end hp0) hcs hl) (fun x h => h) (fun x hx => ?_)
  rcases hW x hx with ⟨h1, h2, h3⟩ | h
  · refine upd_old ?_ (by simpa using h2)
    have e : x = (x.1, ((T.length : Nat) : Int)) := by rw [← h3]
    rw [e]
    exact upd_new h1
  · exact upd_old (upd_old h.1 (not_mem_of h.2 (by simp_all))) (not_mem_of h.2 (by simp))

/-! Metadata -/
def badM : List Nat := [1, 15, 17, 18, 19]
theorem meta_rest : ∀ (m : List UInt8) (p : Nat) (l W : Pl), p ≠ 0 → p ≤ T.length → T.drop p = m → (∀ x ∈ l, x.1 < 20) → (∀ x ∈ W, x = (17, (T.length : Int)) ∨ Kept l badM x) →
    (wds false m = true → Acc looseL (txt T) T.length 20 38 p l W ∧ Acc looseL (txt T) T.length 20 42 p l W) ∧ (wds true m = true → Acc looseL (txt T) T.length 20 41 p l W) := by
  intro m
  induction m with
  | nil =>
    intro p l W hp0 hp hd hl hW
    have e := txt_nil hd hp
    have hF : ∀ cs : List Nat, 17 ∈ cs → (∀ i ∈ 1 :: cs, badM.contains i = true) → ∀ x ∈ W, (x.1 ∈ cs ∧ x.1 ≠ 1 ∧ x.2 = (p : Int)) ∨ Kept l (1 :: cs) x := by
      intro cs h17 hcs x hx
      rcases hW x hx with rfl | h
      · exact .inl ⟨h17, by simp, by rw [e]⟩
      · exact .inr (h.sub hcs)
    refine ⟨fun _ => ⟨?_, ?_⟩, fun h => by cases h⟩
    · exact fin_want (cs := [17, 15]) hp0 e hl (by decide) (by kernel_rfl) (hF _ (by decide) (by decide))
    · exact fin_want (cs := [19, 17, 15]) hp0 e hl (by decide) (by kernel_rfl) (hF _ (by decide) (by decide))
  | cons x m ih =>
    intro p l W hp0 hp hd hl hW
    obtain ⟨hx, hlt, hd'⟩ := txt_head hd
    have nx := fun (cs : List Nat) (h20 : ∀ i ∈ cs, i < 20) (hcs : ∀ i ∈ cs, badM.contains i = true) => ih (p + 1) (upd cs p l) W (by omega) hlt hd' (upd_lt h20 hl) (fun y hy => (hW y hy).imp_right (fun h => h.upd hcs))
    rw [wds, wds]
    by_cases hi : idB x.toNat = true
    · rw [if_pos hi, if_pos hi]
      have h7 := idB_lt hi
      have n := nx [] (by decide) (by decide)
      refine ⟨fun h => ⟨?_, ?_⟩, fun h => ?_⟩
      · exact Acc.step hlt (tab (q := 38) (cls := idB) (cs := []) (o := 38) (by kernel_rfl) hx hi h7 hp0) (by decide) hl (n.1 h).1
      · exact Acc.step hlt (tab (q := 42) (cls := idB) (cs := []) (o := 42) (by kernel_rfl) hx hi h7 hp0) (by decide) hl (n.1 h).2
      · exact Acc.step hlt (tab (q := 41) (cls := idB) (cs := []) (o := 42) (by kernel_rfl) hx hi h7 hp0) (by decide) hl (n.1 h).2
    · rw [if_neg hi, if_neg hi]
      by_cases h46 : x.toNat = 46
      · rw [if_pos ⟨h46, rfl⟩, if_neg (by simp)]
        have h7 : x.toNat < 128 := by omega
        have hc : (fun b => b == 46) x.toNat = true := by simpa using h46
        refine ⟨fun h => ⟨?_, ?_⟩, fun h => by cases h⟩
        · exact Acc.step hlt (tab (q := 38) (cls := fun b => b == 46) (cs := [18]) (o := 41) (by kernel_rfl) hx hc h7 hp0) (by decide) hl ((nx [18] (by decide) (by decide)).2 h)
        · exact Acc.step hlt (tab (q := 42) (cls := fun b => b == 46) (cs := [19, 18]) (o := 41) (by kernel_rfl) hx hc h7 hp0) (by decide) hl ((nx [19, 18] (by decide) (by decide)).2 h)
      · rw [if_neg (fun h => h46 h.1), if_neg (fun h => h46 h.1)]
        exact ⟨fun h => (by cases h), fun h => (by cases h)⟩
def badM6 : List Nat := [1, 15, 16, 17, 18, 19]
/-- Behind the plus sign. -/
theorem meta_acc {m : List UInt8} {p : Nat} {l W : Pl} (hp0 : p ≠ 0) (hp : p ≤ T.length) (hd : T.drop p = m) (hm : wds true m = true) (hl : ∀ x ∈ l, x.1 < 20)
    (hW : ∀ x ∈ W, x = (16, (p : Int)) ∨ x = (17, (T.length : Int)) ∨ Kept l badM6 x) : Acc looseL (txt T) T.length 20 36 p l W := by
  cases m with
  | nil => cases hm
  | cons x m =>
    obtain ⟨hx, hlt, hd'⟩ := txt_head hd
    rw [wds] at hm
    by_cases hi : idB x.toNat = true
    · rw [if_pos hi] at hm
      refine Acc.step hlt (tab (q := 36) (cls := idB) (cs := [16]) (o := 38) (by kernel_rfl) hx hi (idB_lt hi) hp0) (by decide) hl ?_
      refine ((meta_rest m (p + 1) _ W (by omega) hlt hd' (upd_lt (by decide) hl) ?_).1 hm).1
      intro y hy
      rcases hW y hy with rfl | h | h
      · exact .inr ⟨upd_new (by simp), rfl⟩
      · exact .inl h
      · exact .inr ((h.upd (by decide)).sub (by decide))
    · rw [if_neg hi, if_neg (by simp)] at hm
      cases hm

/-! What stands behind the last number: nothing, or metadata behind a plus sign. -/
def metaEnd : List UInt8 → Bool
  | [] => true
  | x :: m => x.toNat == 43 && wds true m
/-- What is told there. -/
def metaTold (E p : Nat) (r : List UInt8) (x : Nat × Int) : Prop := r ≠ [] ∧ (x = (16, ((p + 1 : Nat) : Int)) ∨ x = (17, (E : Int)))
/-- Behind a number or a prerelease (instruction q; cs: what is captured at its end). -/
theorem end_acc {q : Nat} {cs : List Nat} {r : List UInt8} {p : Nat} {l W : Pl} (hp0 : p ≠ 0) (hp : p ≤ T.length) (hd : T.drop p = r) (hr : metaEnd r = true) (hl : ∀ x ∈ l, x.1 < 20) (h20 : ∀ i ∈ cs, i < 14)
    (he : chkEnd q cs = true) (hg : chk q (fun b => b == 43) (cs ++ [14]) 36 = true)
    (hW : ∀ x ∈ W, (x.1 ∈ cs ∧ x.1 ≠ 1 ∧ x.2 = (p : Int)) ∨ metaTold T.length p r x ∨ Kept l (if r = [] then 1 :: cs else 1 :: 14 :: 15 :: 16 :: 17 :: 18 :: 19 :: cs) x) : Acc looseL (txt T) T.length 20 q p l W := by
  cases r with
  | nil =>
    refine fin_want hp0 (txt_nil hd hp) hl (fun i hi => by have := h20 i hi; omega) he (fun x hx => ?_)
    rcases hW x hx with h | h | h
    · exact .inl h
    · exact absurd rfl h.1
    · rw [if_pos rfl] at h
      exact .inr h
  | cons y m =>
    rw [metaEnd, Bool.and_eq_true] at hr
    obtain ⟨hx, hlt, hd'⟩ := txt_head hd
    have h7 : y.toNat < 128 := by
      have := hr.1
      rw [beq_iff_eq] at this
      omega
    have h20' : ∀ i ∈ cs ++ [14], i < 20 := by
      intro i hi
      rcases List.mem_append.1 hi with h | h
      · have := h20 i h
        omega
      · simp at h
        omega
    refine Acc.step hlt (tab hg hx hr.1 h7 hp0) h20' hl ?_
    refine meta_acc (by omega) hlt hd' hr.2 (upd_lt h20' hl) (fun x hx => ?_)
    rcases hW x hx with ⟨h1, h2, h3⟩ | h | h
    · have hlt14 := h20 x.1 h1
      have e : x = (x.1, (p : Int)) := by rw [← h3]
      refine .inr (.inr ⟨by rw [e]; exact upd_new (List.mem_append_left _ h1), ?_⟩)
      simp [badM6]
      omega
    · rcases h.2 with h | h
      · exact .inl h
      · exact .inr (.inl h)
    · rw [if_neg (by simp)] at h
      refine .inr (.inr ((h.upd ?_).sub ?_))
      · intro i hi
        rcases List.mem_append.1 hi with h | h
        · simp [h]
        · simp at h
          simp [h]
      · intro i hi
        simp [badM6] at hi
        rcases hi with rfl | rfl | rfl | rfl | rfl | rfl <;> simp

/-! A prerelease -/
def badP : List Nat := [1, 9, 11, 12, 13, 14, 15, 16, 17, 18, 19]
/-- The words of a prerelease, up to the plus sign or the end. -/
def preEnd : Bool → List UInt8 → Bool
  | fresh, [] => !fresh
  | fresh, x :: l => if idB x.toNat then preEnd false l else if x.toNat = 46 ∧ fresh = false then preEnd true l else (x.toNat == 43 && !fresh && wds true l)
def preLen : List UInt8 → Nat
  | [] => 0
  | x :: l => if x.toNat = 43 then 0 else preLen l + 1
def badPr (r : List UInt8) : List Nat := if preLen r < r.length then badP else [1, 9, 11, 12, 13]
/-- What is told behind: where the prerelease ends, and the metadata. -/
def preTold (E p : Nat) (r : List UInt8) (x : Nat × Int) : Prop := x = (11, ((p + preLen r : Nat) : Int)) ∨ (preLen r < r.length ∧ (x = (16, ((p + preLen r + 1 : Nat) : Int)) ∨ x = (17, (E : Int))))
theorem pre_cons {x : UInt8} {l : List UInt8} (h : x.toNat ≠ 43) : preLen (x :: l) = preLen l + 1 := by rw [preLen, if_neg h]
theorem told_cons {E p : Nat} {x : UInt8} {l : List UInt8} {y : Nat × Int} (h : x.toNat ≠ 43) (ht : preTold E p (x :: l) y) : preTold E (p + 1) l y := by
  unfold preTold at ht ⊢
  rw [pre_cons h, List.length_cons] at ht
  rw [show p + 1 + preLen l = p + (preLen l + 1) by omega]
  rcases ht with h | ⟨h1, h2⟩
  · exact .inl h
  · exact .inr ⟨by omega, h2⟩
theorem badPr_cons {x : UInt8} {l : List UInt8} (h : x.toNat ≠ 43) : badPr (x :: l) = badPr l := by
  unfold badPr
  rw [pre_cons h, List.length_cons]
  simp only [Nat.add_lt_add_iff_right]
theorem badPr_has {r : List UInt8} {i : Nat} (h : i ∈ [1, 9, 11, 12, 13]) : (badPr r).contains i = true := by
  unfold badPr
  split
  · simp at h
    rcases h with rfl | rfl | rfl | rfl | rfl <;> rfl
  · simpa using h
theorem pre_rest : ∀ (r : List UInt8) (p : Nat) (l W : Pl), p ≠ 0 → p ≤ T.length → T.drop p = r → (∀ x ∈ l, x.1 < 20) → (∀ x ∈ W, preTold T.length p r x ∨ Kept l (badPr r) x) →
    (preEnd false r = true → Acc looseL (txt T) T.length 20 24 p l W ∧ Acc looseL (txt T) T.length 20 28 p l W) ∧ (preEnd true r = true → Acc looseL (txt T) T.length 20 27 p l W) := by
  intro r
  induction r with
  | nil =>
    intro p l W hp0 hp hd hl hW
    refine ⟨fun _ => ⟨?_, ?_⟩, fun h => by cases h⟩
    · refine end_acc (cs := [11, 9]) hp0 hp hd rfl hl (by decide) (by kernel_rfl) (by kernel_rfl) (fun x hx => ?_)
      rcases hW x hx with (rfl | h) | h
      · exact .inl ⟨by simp, by simp, rfl⟩
      · exact absurd h.1 (by simp [preLen])
      · exact .inr (.inr (by rw [if_pos rfl]; exact h.sub (by decide)))
    · refine end_acc (cs := [13, 11, 9]) hp0 hp hd rfl hl (by decide) (by kernel_rfl) (by kernel_rfl) (fun x hx => ?_)
      rcases hW x hx with (rfl | h) | h
      · exact .inl ⟨by simp, by simp, rfl⟩
      · exact absurd h.1 (by simp [preLen])
      · exact .inr (.inr (by rw [if_pos rfl]; exact h.sub (by decide)))
  | cons x r ih =>
    intro p l W hp0 hp hd hl hW
    obtain ⟨hx, hlt, hd'⟩ := txt_head hd
    by_cases h43 : x.toNat = 43
    · have hni : idB x.toNat = false := by rw [h43]; rfl
      have e0 : preLen (x :: r) = 0 := by rw [preLen, if_pos h43]
      have hW' : ∀ cs : List Nat, 11 ∈ cs → (∀ i ∈ 1 :: 14 :: 15 :: 16 :: 17 :: 18 :: 19 :: cs, badP.contains i = true) → ∀ y ∈ W, (y.1 ∈ cs ∧ y.1 ≠ 1 ∧ y.2 = (p : Int)) ∨ metaTold T.length p (x :: r) y ∨ Kept l (if (x :: r) = [] then 1 :: cs else 1 :: 14 :: 15 :: 16 :: 17 :: 18 :: 19 :: cs) y := by
        intro cs h11 hcs y hy
        rcases hW y hy with (rfl | h) | h
        · exact .inl ⟨h11, by simp, by rw [e0]; rfl⟩
        · rw [e0] at h
          exact .inr (.inl ⟨by simp, h.2⟩)
        · have eb : badPr (x :: r) = badP := by
            unfold badPr
            rw [if_pos (by rw [e0]; simp)]
          rw [eb] at h
          rw [if_neg (by simp)]
          exact .inr (.inr (h.sub hcs))
      refine ⟨fun h => ?_, fun h => ?_⟩
      · rw [preEnd, if_neg (by simp [hni]), if_neg (by omega)] at h
        have hm : metaEnd (x :: r) = true := by
          rw [metaEnd]
          simpa using h
        exact ⟨end_acc (cs := [11, 9]) hp0 hp hd hm hl (by decide) (by kernel_rfl) (by kernel_rfl) (hW' _ (by decide) (by decide)), end_acc (cs := [13, 11, 9]) hp0 hp hd hm hl (by decide) (by kernel_rfl) (by kernel_rfl) (hW' _ (by decide) (by decide))⟩
      · rw [preEnd, if_neg (by simp [hni]), if_neg (by omega)] at h
        simp at h
    · have nx := fun (cs : List Nat) (h20 : ∀ i ∈ cs, i < 20) (hcs : ∀ i ∈ cs, i ∈ [1, 9, 11, 12, 13]) => ih (p + 1) (upd cs p l) W (by omega) hlt hd' (upd_lt h20 hl) (fun y hy => by
        rcases hW y hy with h | h
        · exact .inl (told_cons h43 h)
        · rw [badPr_cons h43] at h
          exact .inr (h.upd (fun i hi => badPr_has (hcs i hi))))
      rw [preEnd, preEnd]
      by_cases hi : idB x.toNat = true
      · rw [if_pos hi, if_pos hi]
        have h7 := idB_lt hi
        have n := nx [] (by decide) (by decide)
        refine ⟨fun h => ⟨?_, ?_⟩, fun h => ?_⟩
        · exact Acc.step hlt (tab (q := 24) (cls := idB) (cs := []) (o := 24) (by kernel_rfl) hx hi h7 hp0) (by decide) hl (n.1 h).1
        · exact Acc.step hlt (tab (q := 28) (cls := idB) (cs := []) (o := 28) (by kernel_rfl) hx hi h7 hp0) (by decide) hl (n.1 h).2
        · exact Acc.step hlt (tab (q := 27) (cls := idB) (cs := []) (o := 28) (by kernel_rfl) hx hi h7 hp0) (by decide) hl (n.1 h).2
      · rw [if_neg hi, if_neg hi]
        by_cases h46 : x.toNat = 46
        · rw [if_pos ⟨h46, rfl⟩, if_neg (by simp)]
          have h7 : x.toNat < 128 := by omega
          have hc : (fun b => b == 46) x.toNat = true := by simpa using h46
          refine ⟨fun h => ⟨?_, ?_⟩, fun h => ?_⟩
          · exact Acc.step hlt (tab (q := 24) (cls := fun b => b == 46) (cs := [12]) (o := 27) (by kernel_rfl) hx hc h7 hp0) (by decide) hl ((nx [12] (by decide) (by decide)).2 h)
          · exact Acc.step hlt (tab (q := 28) (cls := fun b => b == 46) (cs := [13, 12]) (o := 27) (by kernel_rfl) hx hc h7 hp0) (by decide) hl ((nx [13, 12] (by decide) (by decide)).2 h)
          · simp at h
        · rw [if_neg (fun h => h46 h.1), if_neg (fun h => h46 h.1)]
          have : (x.toNat == 43) = false := beq_eq_false_iff_ne.2 h43
          rw [this]
          exact ⟨fun h => (by cases h), fun h => (by cases h)⟩

/-! What stands behind the numbers -/
def tailOk : List UInt8 → Bool
  | [] => true
  | x :: r => if x.toNat = 45 then preEnd true r else x.toNat == 43 && wds true r
def tailTold (E p : Nat) : List UInt8 → Nat × Int → Prop
  | [], _ => False
  | x :: r, y => if x.toNat = 45 then y = (10, ((p + 1 : Nat) : Int)) ∨ preTold E (p + 1) r y else metaTold E p (x :: r) y
def badT : List UInt8 → List Nat
  | [] => [1]
  | x :: r => if x.toNat = 45 then 8 :: 10 :: badPr r else [1, 14, 15, 16, 17, 18, 19]
theorem tailTold_cons {E p : Nat} {x : UInt8} {r : List UInt8} {y : Nat × Int} : tailTold E p (x :: r) y = if x.toNat = 45 then y = (10, ((p + 1 : Nat) : Int)) ∨ preTold E (p + 1) r y else metaTold E p (x :: r) y := rfl
theorem badT_cons {x : UInt8} {r : List UInt8} : badT (x :: r) = if x.toNat = 45 then 8 :: 10 :: badPr r else [1, 14, 15, 16, 17, 18, 19] := rfl
theorem num_acc {q cx : Nat} {r : List UInt8} {p : Nat} {l W : Pl} (hp0 : p ≠ 0) (hp : p ≤ T.length) (hd : T.drop p = r) (hr : tailOk r = true) (hl : ∀ x ∈ l, x.1 < 20) (hcx : cx < 8) (hcx1 : cx ≠ 1)
    (he : chkEnd q [cx] = true) (hg : chk q (fun b => b == 43) [cx, 14] 36 = true) (hm : chk q (fun b => b == 45) [cx, 8] 22 = true)
    (hW : ∀ x ∈ W, x = (cx, (p : Int)) ∨ tailTold T.length p r x ∨ Kept l (cx :: badT r) x) : Acc looseL (txt T) T.length 20 q p l W := by
  have other : metaEnd r = true → (∀ y, tailTold T.length p r y → metaTold T.length p r y) → (∀ i ∈ (if r = [] then [1, cx] else [1, 14, 15, 16, 17, 18, 19, cx]), (cx :: badT r).contains i = true) → Acc looseL (txt T) T.length 20 q p l W := by
    intro hme ht hb
    refine end_acc (cs := [cx]) hp0 hp hd hme hl (by simp; omega) he hg (fun x hx => ?_)
    rcases hW x hx with rfl | h | h
    · exact .inl ⟨by simp, hcx1, rfl⟩
    · exact .inr (.inl (ht _ h))
    · refine .inr (.inr (h.sub ?_))
      intro i hi
      refine hb i ?_
      split at hi <;> simp_all
  cases r with
  | nil => exact other rfl (fun y h => h.elim) (by simp [badT])
  | cons x r =>
    rw [tailOk] at hr
    by_cases h45 : x.toNat = 45
    · rw [if_pos h45] at hr
      obtain ⟨hx, hlt, hd'⟩ := txt_head hd
      have h20 : ∀ i ∈ [cx, 8], i < 20 := by simp; omega
      have hc : (fun b => b == 45) x.toNat = true := by simpa using h45
      refine Acc.step hlt (tab hm hx hc (by omega) hp0) h20 hl ?_
      -- the first rune of the prerelease
      cases r with
      | nil => cases hr
      | cons y r =>
        obtain ⟨hy, hlt2, hd2⟩ := txt_head hd'
        rw [preEnd] at hr
        by_cases hi : idB y.toNat = true
        · rw [if_pos hi] at hr
          have h43 : y.toNat ≠ 43 := by
            intro e
            rw [e] at hi
            cases hi
          refine Acc.step hlt2 (tab (q := 22) (cls := idB) (cs := [10]) (o := 24) (by kernel_rfl) hy hi (idB_lt hi) (by omega)) (by decide) (upd_lt h20 hl) ?_
          refine ((pre_rest r (p + 1 + 1) _ W (by omega) hlt2 hd2 (upd_lt (by decide) (upd_lt h20 hl)) ?_).1 hr).1
          have hcb : (badPr r).contains cx = false ∨ (badPr r).contains cx = true := by cases (badPr r).contains cx <;> simp
          intro z hz
          rcases hW z hz with rfl | h | h
          · refine .inr ⟨upd_old (upd_new (by simp)) (by simp; omega), ?_⟩
            unfold badPr
            split
            · simp [badP]
              omega
            · simp
              omega
          · rw [tailTold_cons, if_pos h45] at h
            rcases h with rfl | h
            · refine .inr ⟨upd_new (by simp), ?_⟩
              unfold badPr
              split <;> rfl
            · exact .inl (told_cons h43 h)
          · have eb : badT (x :: y :: r) = 8 :: 10 :: badPr r := by
              rw [badT_cons, if_pos h45, badPr_cons h43]
            rw [eb] at h
            exact .inr (((h.upd (by simp)).upd (by simp)).sub (by intro i hi; simp_all))
        · rw [if_neg hi, if_neg (by simp)] at hr
          simp at hr
    · rw [if_neg h45] at hr
      refine other hr (fun y h => by rw [tailTold_cons, if_neg h45] at h; exact h) ?_
      rw [badT_cons, if_neg h45]
      simp

/-! The numbers -/
theorem digits_acc {q : Nat} {D R : List UInt8} {p : Nat} {l W : Pl} (hp0 : p ≠ 0) (hd : T.drop p = D ++ R) (hp : p ≤ T.length) (hD : ∀ x ∈ D, numB x.toNat = true) (hl : ∀ x ∈ l, x.1 < 20) (hq : chk q numB [] q = true)
    (h : Acc looseL (txt T) T.length 20 q (p + D.length) l W) : Acc looseL (txt T) T.length 20 q p l W := by
  have hlen : p + D.length ≤ T.length := by
    have := congrArg List.length hd
    rw [List.length_drop, List.length_append] at this
    omega
  refine Acc.loop hl D.length hlen (fun j h1 h2 => ?_) h
  obtain ⟨i, rfl⟩ : ∃ i, j = p + i := ⟨j - p, by omega⟩
  have hi : i < D.length := by omega
  exact tab hq (txt_at hd hi) (hD _ (List.getElem_mem hi)) (numB_lt (hD _ (List.getElem_mem hi))) (by omega)
theorem drop_app {p : Nat} {D R : List UInt8} (h : T.drop p = D ++ R) : T.drop (p + D.length) = R := by
  rw [← List.drop_drop, h, List.drop_left]
/-- A point and a number. -/
theorem dot_acc {q o a cx : Nat} {d : List UInt8} {R : List UInt8} {p : Nat} {l W : Pl} (hp0 : p ≠ 0) (hd : T.drop p = 46 :: (d ++ R)) (hne : d ≠ []) (hD : ∀ x ∈ d, numB x.toNat = true) (hl : ∀ x ∈ l, x.1 < 20) (hcx : cx < 20) (ha : a < 20)
    (hg : chk q (fun b => b == 46) [cx, a] o = true) (ho : chk o numB [] (o + 1) = true) (hq : chk (o + 1) numB [] (o + 1) = true)
    (h : Acc looseL (txt T) T.length 20 (o + 1) (p + 1 + d.length) (upd [cx, a] p l) W) : Acc looseL (txt T) T.length 20 q p l W := by
  obtain ⟨hx, hlt, hd'⟩ := txt_head hd
  have h20 : ∀ i ∈ [cx, a], i < 20 := by simp; omega
  refine Acc.step hlt (tab hg hx rfl (by decide) hp0) h20 hl ?_
  cases d with
  | nil => exact absurd rfl hne
  | cons y d =>
    obtain ⟨hy, hlt2, hd2⟩ := txt_head (R := d ++ R) hd'
    have hny := hD y (by simp)
    refine Acc.step hlt2 (tab ho hy hny (numB_lt hny) (by omega)) (by simp) (upd_lt h20 hl) ?_
    rw [show upd [] (p + 1) (upd [cx, a] p l) = upd [cx, a] p l by simp [upd]]
    refine digits_acc (by omega) hd2 (by omega) (fun x hx => hD x (by simp [hx])) (upd_lt h20 hl) hq ?_
    rw [List.length_cons] at h
    rwa [show p + 1 + 1 + d.length = p + 1 + (d.length + 1) by omega]

/-! The whole text -/
def L0 : Pl := (0, 0) :: (List.range 19).map (fun i => (i + 1, -1))
theorem L0_has : Has 20 ((List.replicate 20 (-1 : Int)).set 0 0) L0 := by
  refine ⟨rfl, fun p hp => ?_⟩
  revert p
  decide
theorem L0_lt : ∀ x ∈ L0, x.1 < 20 := by decide
def chk0 (q : Nat) (cls : Nat → Bool) (cs : List Nat) (o : Nat) : Bool := (List.range 128).all fun b => !cls b || decide (lk looseL true (b : Int) 40 q = some (.go cs o))
theorem tab0 {q o : Nat} {cls : Nat → Bool} {cs : List Nat} (h : chk0 q cls cs o = true) {x : UInt8} (hx : txt T 0 = (x.toNat : Int)) (hc : cls x.toNat = true) (h7 : x.toNat < 128) : lk looseL ((0 : Nat) == 0) (txt T 0) 40 q = some (.go cs o) := by
  have := List.all_eq_true.1 h x.toNat (List.mem_range.2 h7)
  rw [hc, Bool.not_true, Bool.false_or, decide_eq_true_eq] at this
  rw [hx]
  exact this
/-- The beginning: a letter v or none, and the first number. -/
theorem head_acc {lt D X : List UInt8} {W : Pl} (hT : T = lt ++ (D ++ X)) (hlt : lt = [] ∨ lt = [118]) (hne : D ≠ []) (hD : ∀ x ∈ D, numB x.toNat = true)
    (h : Acc looseL (txt T) T.length 20 6 (lt.length + D.length) (upd [2] lt.length L0) W) : Acc looseL (txt T) T.length 20 1 0 L0 W := by
  cases D with
  | nil => exact absurd rfl hne
  | cons d D =>
    have hd := hD d (by simp)
    have hD' : ∀ x ∈ D, numB x.toNat = true := fun x hx => hD x (by simp [hx])
    rcases hlt with rfl | rfl
    · have h0 : T.drop 0 = d :: (D ++ X) := by rw [List.drop_zero, hT]; rfl
      obtain ⟨hx, hl, hd'⟩ := txt_head h0
      refine Acc.step hl (tab0 (cls := numB) (cs := [2]) (o := 6) (by kernel_rfl) hx hd (numB_lt hd)) (by decide) L0_lt ?_
      refine digits_acc (by omega) hd' (by omega) hD' (upd_lt (by decide) L0_lt) (by kernel_rfl) ?_
      simp only [List.length_nil, List.length_cons] at h
      rwa [show 0 + 1 + D.length = 0 + (D.length + 1) by omega]
    · have h0 : T.drop 0 = 118 :: (d :: (D ++ X)) := by rw [List.drop_zero, hT]; rfl
      obtain ⟨hx, hl, hd'⟩ := txt_head h0
      refine Acc.step hl (tab0 (cls := fun b => b == 118) (cs := []) (o := 4) (by kernel_rfl) hx rfl (by decide)) (by decide) L0_lt ?_
      obtain ⟨hx1, hl1, hd1⟩ := txt_head hd'
      rw [show upd [] 0 L0 = L0 by simp [upd]]
      refine Acc.step hl1 (tab (q := 4) (cls := numB) (cs := [2]) (o := 6) (by kernel_rfl) hx1 hd (numB_lt hd) (by omega)) (by decide) L0_lt ?_
      refine digits_acc (by omega) hd1 (by omega) hD' (upd_lt (by decide) L0_lt) (by kernel_rfl) ?_
      simp only [List.length_cons, List.length_nil] at h
      rwa [show 0 + 1 + 1 + D.length = 0 + 1 + (D.length + 1) by omega]
/-- The captures behind the numbers, at the end. -/
def tailW (E p : Nat) : List UInt8 → Pl
  | [] => [(10, -1), (11, -1), (16, -1), (17, -1)]
  | x :: r => if x.toNat = 45 then (10, ((p + 1 : Nat) : Int)) :: (11, ((p + 1 + preLen r : Nat) : Int)) :: (if preLen r < r.length then [(16, ((p + 1 + preLen r + 1 : Nat) : Int)), (17, (E : Int))] else [(16, -1), (17, -1)])
    else [(10, -1), (11, -1), (16, ((p + 1 : Nat) : Int)), (17, (E : Int))]
theorem tailW_ok {E p cx : Nat} {r : List UInt8} {l : Pl} (hk : ∀ i ∈ [10, 11, 16, 17], (i, (-1 : Int)) ∈ l) (hcx : cx < 8) : ∀ x ∈ tailW E p r, tailTold E p r x ∨ Kept l (cx :: badT r) x := by
  have k : ∀ i ∈ [10, 11, 16, 17], (cx :: badT r).contains i = false → Kept l (cx :: badT r) (i, (-1 : Int)) := fun i hi hb => ⟨hk i hi, hb⟩
  intro x hx
  cases r with
  | nil =>
    simp only [tailW, List.mem_cons, List.mem_nil_iff, or_false] at hx
    rcases hx with rfl | rfl | rfl | rfl <;> exact .inr (k _ (by decide) (by simp [badT]; omega))
  | cons y r =>
    rw [tailW] at hx
    by_cases h45 : y.toNat = 45
    · rw [if_pos h45] at hx
      rw [tailTold_cons, if_pos h45]
      rcases List.mem_cons.1 hx with rfl | hx
      · exact .inl (.inl rfl)
      rcases List.mem_cons.1 hx with rfl | hx
      · exact .inl (.inr (.inl rfl))
      split at hx
      · rename_i hlt
        simp only [List.mem_cons, List.mem_nil_iff, or_false] at hx
        exact .inl (.inr (.inr ⟨hlt, hx⟩))
      · rename_i hlt
        have eb : badT (y :: r) = [8, 10, 1, 9, 11, 12, 13] := by
          rw [badT_cons, if_pos h45]
          unfold badPr
          rw [if_neg hlt]
        simp only [List.mem_cons, List.mem_nil_iff, or_false] at hx
        rcases hx with rfl | rfl <;> exact .inr (k _ (by decide) (by rw [eb]; simp; omega))
    · rw [if_neg h45] at hx
      rw [tailTold_cons, if_neg h45]
      have eb : badT (y :: r) = [1, 14, 15, 16, 17, 18, 19] := by
        rw [badT_cons, if_neg h45]
      simp only [List.mem_cons, List.mem_nil_iff, or_false] at hx
      rcases hx with rfl | rfl | rfl | rfl
      · exact .inr (k _ (by decide) (by rw [eb]; simp; omega))
      · exact .inr (k _ (by decide) (by rw [eb]; simp; omega))
      · exact .inl ⟨by simp, .inl rfl⟩
      · exact .inl ⟨by simp, .inr rfl⟩
theorem badT_big {cx : Nat} {r : List UInt8} {i : Nat} (hi : 1 < i) (h8 : i < 8) (hn : i ≠ cx) : (cx :: badT r).contains i = false := by
  cases r with
  | nil => simp [badT]; omega
  | cons y r =>
    rw [badT_cons]
    split
    · unfold badPr
      split
      · simp [badP]
        omega
      · simp
        omega
    · simp
      omega
/-- Three numbers. -/
theorem loose3 {lt D d e r : List UInt8} (hT : T = lt ++ (D ++ (46 :: (d ++ (46 :: (e ++ r)))))) (hlt : lt = [] ∨ lt = [118]) (hne : D ≠ []) (hD : ∀ x ∈ D, numB x.toNat = true) (hn1 : d ≠ []) (hd1 : ∀ x ∈ d, numB x.toNat = true) (hn2 : e ≠ []) (he1 : ∀ x ∈ e, numB x.toNat = true) (hr : tailOk r = true) :
    Acc looseL (txt T) T.length 20 1 0 L0 ((2, (lt.length : Int)) :: (3, ((lt.length + D.length : Nat) : Int)) :: (4, ((lt.length + D.length : Nat) : Int)) :: (5, ((lt.length + D.length + 1 + d.length : Nat) : Int)) :: (6, ((lt.length + D.length + 1 + d.length : Nat) : Int)) :: (7, ((lt.length + D.length + 1 + d.length + 1 + e.length : Nat) : Int)) :: tailW T.length (lt.length + D.length + 1 + d.length + 1 + e.length) r) := by
  have hd : T.drop (lt.length + D.length) = 46 :: (d ++ (46 :: (e ++ r))) := by rw [hT, ← List.append_assoc, ← List.length_append, List.drop_left]
  have hlen : T.length = lt.length + D.length + 1 + d.length + 1 + e.length + r.length := by rw [hT]; simp only [List.length_append, List.length_cons]; omega
  obtain ⟨_, _, hd'⟩ := txt_head hd
  have hd2 := drop_app hd'
  obtain ⟨_, _, hd3⟩ := txt_head hd2
  have hd4 := drop_app hd3
  have hp0 : lt.length + D.length ≠ 0 := by
    have := List.length_pos_iff.2 hne
    omega
  refine head_acc hT hlt hne hD ?_
  refine dot_acc (o := 10) (a := 4) (cx := 3) hp0 hd hn1 hd1 (upd_lt (by decide) L0_lt) (by decide) (by decide) (by kernel_rfl) (by kernel_rfl) (by kernel_rfl) ?_
  have l20 := upd_lt (cs := [3, 4]) (pos := lt.length + D.length) (by decide) (upd_lt (cs := [2]) (pos := lt.length) (by decide) L0_lt)
  refine dot_acc (o := 16) (a := 6) (cx := 5) (by omega) hd2 hn2 he1 l20 (by decide) (by decide) (by kernel_rfl) (by kernel_rfl) (by kernel_rfl) ?_
  have l21 := upd_lt (cs := [5, 6]) (pos := lt.length + D.length + 1 + d.length) (by decide) l20
  refine num_acc (cx := 7) (by omega) (by omega) hd4 hr l21 (by decide) (by decide) (by kernel_rfl) (by kernel_rfl) (by kernel_rfl) (fun x hx => ?_)
  have old : ∀ i, i ∈ [10, 11, 16, 17] → (i, (-1 : Int)) ∈ upd [5, 6] (lt.length + D.length + 1 + d.length) (upd [3, 4] (lt.length + D.length) (upd [2] lt.length L0)) := by
    intro i hi
    refine upd_old (upd_old (upd_old ?_ ?_) ?_) ?_
    · revert i
      decide
    · revert i
      decide
    · revert i
      decide
    · revert i
      decide
  simp only [List.mem_cons] at hx
  rcases hx with rfl | rfl | rfl | rfl | rfl | rfl | hx
  · exact .inr (.inr ⟨upd_old (upd_old (upd_new (by simp)) (by rfl)) (by rfl), badT_big (by simp) (by simp) (by simp)⟩)
  · exact .inr (.inr ⟨upd_old (upd_new (by simp)) (by rfl), badT_big (by simp) (by simp) (by simp)⟩)
  · exact .inr (.inr ⟨upd_old (upd_new (by simp)) (by rfl), badT_big (by simp) (by simp) (by simp)⟩)
  · exact .inr (.inr ⟨upd_new (by simp), badT_big (by simp) (by simp) (by simp)⟩)
  · exact .inr (.inr ⟨upd_new (by simp), badT_big (by simp) (by simp) (by simp)⟩)
  · exact .inl rfl
  · exact .inr (tailW_ok old (by decide) x hx)
end
end Go.Proofs.YtekkaknpgdgjjaaGreatDoor.H
