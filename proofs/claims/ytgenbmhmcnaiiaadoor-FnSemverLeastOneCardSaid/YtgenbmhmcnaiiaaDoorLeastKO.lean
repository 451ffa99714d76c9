/- Texts of this claim, joined. -/
import Derived.Test.YtgenbmhmcnaiiaaDoorHaCheck3KO
import Derived.Test.YtgenbmhmcnaiiaaDoorListsKO
import Derived.Test.YtgenbmhmcnaiiaaDoorHaTGoodKO
import Derived.Test.YtgenbmhmcnaiiaaDoorPtsKO
import Derived.Test.YtgenbmhmcnaiiaaDoorPGAKO
import Derived.Test.YtgenbmhmcnaiiaaDoorHaGoodKO
import Derived.Test.YtgenbmhmcnaiiaaDoorHaRegionKO
/- What a good term says of a release is fixed by which of finitely many releases are not above it. No program in sight. -/
namespace Go.Proofs.YtgenbmhmcnaiiaaDoor.H
open Go.RowKit Go.Proofs.YtgenbmhmcnaiiaaDoor.PG
open Go.Proofs.YtgenbmhmcnaiiaaDoorW.PrintWords hiding Ev Ev.bind
set_option linter.unusedVariables false
set_option linter.unusedSimpArgs false

def EE : ByteArray := ⟨#[]⟩
/-- Three numbers are not above, or below, three others. -/
def le3 (a b c x y z : Int) : Prop := a < x ∨ (a = x ∧ (b < y ∨ (b = y ∧ c ≤ z)))
def lt3 (a b c x y z : Int) : Prop := a < x ∨ (a = x ∧ (b < y ∨ (b = y ∧ c < z)))
theorem tail_EE (p' : ByteArray) : tailCmp EE p' = 0 ∧ p'.data.toList = [] ∨ tailCmp EE p' = 1 ∧ p'.data.toList ≠ [] := by
  unfold tailCmp EE
  rw [toList_eq, toList_eq]
  cases p'.data.toList with
  | nil => exact .inl ⟨rfl, rfl⟩
  | cons x l => exact .inr ⟨rfl, by simp⟩
theorem ver_EE (a b c a' b' c' : Int) (p' : ByteArray) : (verCmp a b c EE a' b' c' p' < 0 ↔ ¬ le3 a' b' c' a b c) ∧ (verCmp a b c EE a' b' c' p' > 0 ↔ lt3 a' b' c' a b c ∨ (a = a' ∧ b = b' ∧ c = c' ∧ p'.data.toList ≠ [])) ∧ sgn (verCmp a b c EE a' b' c' p') := by
  have ht := tail_EE p'
  unfold verCmp segCmp le3 lt3 sgn
  generalize tailCmp EE p' = t at *
  grind
theorem op_land (o n a' b' c' : Int) (p' : ByteArray) (hg : goodTerm o n a' b' c' p' = true) (pre : Bool) (a b c x y z : Int) (ha' : 0 ≤ a' ∧ 0 ≤ b' ∧ 0 ≤ c') (ha : 0 ≤ a ∧ 0 ≤ b ∧ 0 ≤ c) (hx : 0 ≤ x ∧ 0 ≤ y ∧ 0 ≤ z)
    (F0 : le3 a' b' c' a b c ↔ le3 a' b' c' x y z) (F1 : a' < a ↔ a' < x) (F2 : (a' < a ∨ (a' = a ∧ b' < b)) ↔ (a' < x ∨ (a' = x ∧ b' < y))) (F3 : lt3 a' b' c' a b c ↔ lt3 a' b' c' x y z) :
    opHolds o (decide (0 ≤ n) && decide (n < 3)) (n == 1) (n == 2) pre a b c EE a' b' c' p' = opHolds o (decide (0 ≤ n) && decide (n < 3)) (n == 1) (n == 2) pre x y z EE a' b' c' p' := by
  obtain ⟨o0, o8, n0, n3, hk, h3, h2, h1, hz, ht⟩ := goodTerm_iff hg
  have A := ver_EE a b c a' b' c' p'
  have B := ver_EE x y z a' b' c' p'
  have hr : verCmp a b c EE a' b' c' p' = verCmp x y z EE a' b' c' p' := by
    unfold le3 lt3 sgn at *
    grind
  unfold opHolds
  rw [← hr]
  generalize verCmp a b c EE a' b' c' p' = r at *
  clear B
  have e0 : EE.toList.isEmpty = true := by unfold EE; rw [toList_eq]; rfl
  unfold eqHolds neHolds gtHolds ltHolds geHolds leHolds tildeHolds caretHolds
  simp only [e0, Bool.true_eq_false, false_and, if_false]
  have hp : n < 3 → p' = EE := fun h => eq_of_data (h3 h).2
  unfold le3 lt3 sgn gtTail tildeTail caretTail at *
  have ho : o = 0 ∨ o = 1 ∨ o = 2 ∨ o = 3 ∨ o = 4 ∨ o = 5 ∨ o = 6 ∨ o = 7 := by omega
  have hn : n = 0 ∨ n = 1 ∨ n = 2 ∨ n = 3 := by omega
  clear hg hk hr
  rcases ho with rfl | rfl | rfl | rfl | rfl | rfl | rfl | rfl <;> rcases hn with rfl | rfl | rfl | rfl <;> simp <;> grind
end Go.Proofs.YtgenbmhmcnaiiaaDoor.H

/- Of the releases at which what good terms say may change there is a least one that satisfies them, if any release does. No program in sight. -/
namespace Go.Proofs.YtgenbmhmcnaiiaaDoor.H
open Go.RowKit Go.Proofs.YtgenbmhmcnaiiaaDoor.PG
open Go.Proofs.YtgenbmhmcnaiiaaDoorW.PrintWords hiding Ev Ev.bind
set_option linter.unusedVariables false
set_option linter.unusedSimpArgs false

/-! ### what stands in the list of points -/
theorem eqb_eq {x y : S27} (h : eqb x y = true) : x = y := by
  unfold eqb at h
  simp only [Bool.and_eq_true, beq_iff_eq, toList_eq] at h
  obtain ⟨h0, h1, h2, h3, h4⟩ := h
  cases x
  cases y
  simp only at h0 h1 h2 h3 h4
  rw [h0, h1, h2, eq_of_data h3, eq_of_data h4]
theorem once1_sub {l : List S27} {v x : S27} (h : x ∈ l) : x ∈ once1 l v := by
  unfold once1
  split
  · exact h
  · exact List.mem_append_left _ h
theorem once1_self (l : List S27) (v : S27) : v ∈ once1 l v := by
  unfold once1
  split
  · rename_i h
    obtain ⟨y, hy, e⟩ := List.any_eq_true.1 h
    rw [eqb_eq e]
    exact hy
  · simp
theorem once1_up {l : List S27} {v x : S27} (h : x ∈ once1 l v) : x ∈ l ∨ x = v := by
  unfold once1 at h
  split at h
  · exact .inl h
  · simpa using h
theorem fold_sub {α : Type} {g : List S27 → α → List S27} (hg : ∀ {l : List S27} {v : α} {x : S27}, x ∈ l → x ∈ g l v) : ∀ (xs : List α) {l : List S27} {x : S27}, x ∈ l → x ∈ xs.foldl g l
  | [], l, x, h => h
  | y :: xs, l, x, h => fold_sub hg xs (hg h)
theorem fold_has {α : Type} {g : List S27 → α → List S27} (hg : ∀ {l : List S27} {v : α} {x : S27}, x ∈ l → x ∈ g l v) {Q : α → S27 → Prop} (hq : ∀ l v x, Q v x → x ∈ g l v) : ∀ (xs : List α) {l : List S27} {v : α} {x : S27}, v ∈ xs → Q v x → x ∈ xs.foldl g l
  | y :: xs, l, v, x, hv, h => by
    rcases List.mem_cons.1 hv with rfl | hv
    · exact fold_sub hg xs (hq _ _ _ h)
    · exact fold_has hg hq xs hv h
theorem fold_up {α : Type} {g : List S27 → α → List S27} {P : S27 → Prop} {A : α → Prop} (hg : ∀ l v, A v → (∀ x ∈ l, P x) → ∀ x ∈ g l v, P x) : ∀ (xs : List α) {l : List S27}, (∀ v ∈ xs, A v) → (∀ x ∈ l, P x) → ∀ x ∈ xs.foldl g l, P x
  | [], l, _, h => h
  | y :: xs, l, ha, h => fold_up hg xs (fun v hv => ha v (List.mem_cons_of_mem _ hv)) (hg l y (ha y List.mem_cons_self) h)
theorem pts2_sub {l : List S27} {v x : S27} (h : x ∈ l) : x ∈ pts2 l v := by
  unfold pts2 onceL
  exact fold_sub once1_sub _ (once1_sub h)
theorem pts2_self (l : List S27) (v : S27) : v ∈ pts2 l v := by
  unfold pts2 onceL
  exact fold_sub once1_sub _ (once1_self _ _)
theorem pts1_sub {l : List S27} {t : S54} {x : S27} (h : x ∈ l) : x ∈ pts1 l t := by
  unfold pts1
  exact fold_sub pts2_sub _ (once1_sub h)
def ofTerm (t : S54) (x : S27) : Prop := x = lowV t ∨ x ∈ blocksTo 4 t.f2 t.f3 t.f4
theorem pts1_has (l : List S27) (t : S54) (x : S27) (h : ofTerm t x) : x ∈ pts1 l t := by
  unfold pts1
  rcases h with rfl | h
  · exact fold_sub pts2_sub _ (once1_self _ _)
  · exact fold_has pts2_sub (Q := fun v x => x = v) (fun l v x e => e ▸ pts2_self l v) _ h rfl
theorem ptsT_sub {l : List S27} {ts : List S54} {x : S27} (h : x ∈ l) : x ∈ ptsT l ts := fold_sub pts1_sub _ h
theorem ptsT_has (l : List S27) (ts : List S54) (x : S27) (h : ∃ t ∈ ts, ofTerm t x) : x ∈ ptsT l ts := by
  obtain ⟨t, ht, hx⟩ := h
  exact fold_has pts1_sub (Q := ofTerm) pts1_has _ ht hx
theorem points_has {c : List (List S54)} {ts : List S54} {t : S54} {x : S27} (h1 : ts ∈ c) (h2 : t ∈ ts) (h : ofTerm t x) : x ∈ pointsL c :=
  fold_has ptsT_sub (Q := fun ts x => ∃ t ∈ ts, ofTerm t x) ptsT_has _ h1 ⟨t, h2, h⟩
theorem points_zero (c : List (List S54)) : z27 ∈ pointsL c := fold_sub ptsT_sub _ (by simp)

/-! ### each is a release -/
def inR (x : Int) : Prop := 0 ≤ x ∧ x ≤ 18446744073709551615
def isRel (x : S27) : Prop := inR x.f0 ∧ inR x.f1 ∧ inR x.f2 ∧ x.f3 = EE ∧ x.f4 = EE
theorem up_eq {x : Int} (h : inR x) : up x = if x = 18446744073709551615 then 0 else x + 1 := by
  unfold inR at h
  unfold up
  simp only [IntKind.wrap, IntKind.bits, IntKind.signed, Bool.false_and, Bool.false_eq_true, if_false]
  by_cases e : x = 18446744073709551615
  · rw [if_pos e]
    omega
  · rw [if_neg e]
    omega
theorem up_inR {x : Int} (h : inR x) : inR (up x) := by
  rw [up_eq h]
  unfold inR at *
  split <;> omega
theorem inR0 : inR 0 := by unfold inR; omega
theorem blkI_rel {i a b c : Int} (ha : inR a) (hb : inR b) (hc : inR c) {q : Int × Int × Int} (h : blkI i a b c = some q) : isRel (rel3 q) := by
  have ua := up_inR ha
  have ub := up_inR hb
  have uc := up_inR hc
  have h0 : ∀ q, blk0 a = some q → isRel (rel3 q) := by
    intro q h
    unfold blk0 at h
    split at h
    · cases h
    · cases h
      exact ⟨ua, inR0, inR0, rfl, rfl⟩
  have h1 : ∀ q, blk1 a b = some q → isRel (rel3 q) := by
    intro q h
    unfold blk1 at h
    split at h
    · exact h0 q h
    · cases h
      exact ⟨ha, ub, inR0, rfl, rfl⟩
  unfold blkI at h
  split at h
  · exact h0 q h
  split at h
  · exact h1 q h
  split at h
  · unfold blk2 at h
    split at h
    · exact h1 q h
    · cases h
      exact ⟨ha, hb, uc, rfl, rfl⟩
  · cases h
theorem blkL_rel {i a b c : Int} (ha : inR a) (hb : inR b) (hc : inR c) : ∀ x ∈ blkL i a b c, isRel x := by
  intro x hx
  unfold blkL at hx
  cases h : blkI i a b c with
  | none => rw [h] at hx; simp at hx
  | some q =>
    rw [h] at hx
    simp at hx
    subst hx
    exact blkI_rel ha hb hc h
theorem blocks_rel {a b c : Int} (ha : inR a) (hb : inR b) (hc : inR c) : ∀ x ∈ blocksTo 4 a b c, isRel x := by
  intro x hx
  unfold blocksTo at hx
  simp only [Int.reduceLE, if_true, List.mem_append] at hx
  rcases hx with (hx | hx) | hx
  · exact blkL_rel ha hb hc x hx
  · exact blkL_rel ha hb hc x hx
  · exact blkL_rel ha hb hc x hx
theorem once1_rel (l : List S27) (v : S27) (hv : isRel v) (h : ∀ x ∈ l, isRel x) : ∀ x ∈ once1 l v, isRel x := by
  intro x hx
  rcases once1_up hx with hx | rfl
  · exact h x hx
  · exact hv
theorem pts2_rel (l : List S27) (v : S27) (hv : isRel v) (h : ∀ x ∈ l, isRel x) : ∀ x ∈ pts2 l v, isRel x := by
  unfold pts2 onceL
  exact fold_up (A := isRel) once1_rel _ (blocks_rel hv.1 hv.2.1 hv.2.2.1) (once1_rel l v hv h)
def termR (t : S54) : Prop := inR t.f2 ∧ inR t.f3 ∧ inR t.f4
theorem pts1_rel (l : List S27) (t : S54) (ht : termR t) (h : ∀ x ∈ l, isRel x) : ∀ x ∈ pts1 l t, isRel x := by
  unfold pts1
  exact fold_up (A := isRel) pts2_rel _ (blocks_rel ht.1 ht.2.1 ht.2.2) (once1_rel l (lowV t) ⟨ht.1, ht.2.1, ht.2.2, rfl, rfl⟩ h)
theorem points_rel (c : List (List S54)) (hc : ∀ l ∈ c, ∀ t ∈ l, termR t) : ∀ x ∈ pointsL c, isRel x := by
  unfold pointsL
  refine fold_up (A := fun l => ∀ t ∈ l, termR t) (fun l ts hts h => ?_) _ hc ?_
  · unfold ptsT
    exact fold_up (A := termR) pts1_rel _ hts h
  · intro x hx
    simp at hx
    subst hx
    exact ⟨inR0, inR0, inR0, rfl, rfl⟩

/-! ### the greatest point that is not above -/
def leV (x y : S27) : Prop := le3 x.f0 x.f1 x.f2 y.f0 y.f1 y.f2
theorem leV_refl (x : S27) : leV x x := by unfold leV le3; omega
theorem leV_trans {x y z : S27} (h : leV x y) (h' : leV y z) : leV x z := by unfold leV le3 at *; omega
theorem leV_total (x y : S27) : leV x y ∨ leV y x := by unfold leV le3; omega
theorem land_ex (v : S27) : ∀ (l : List S27), (∃ x ∈ l, leV x v) → ∃ p ∈ l, leV p v ∧ ∀ q ∈ l, leV q v → leV q p
  | [], h => by
    obtain ⟨x, hx, _⟩ := h
    cases hx
  | y :: l, h => by
    by_cases hl : ∃ x ∈ l, leV x v
    · obtain ⟨p, hp, hpv, hq⟩ := land_ex v l hl
      by_cases hy : leV y v
      · rcases leV_total y p with hyp | hpy
        · refine ⟨p, List.mem_cons_of_mem _ hp, hpv, fun q hq' hqv => ?_⟩
          rcases List.mem_cons.1 hq' with rfl | hq'
          · exact hyp
          · exact hq q hq' hqv
        · refine ⟨y, List.mem_cons_self, hy, fun q hq' hqv => ?_⟩
          rcases List.mem_cons.1 hq' with rfl | hq'
          · exact leV_refl _
          · exact leV_trans (hq q hq' hqv) hpy
      · refine ⟨p, List.mem_cons_of_mem _ hp, hpv, fun q hq' hqv => ?_⟩
        rcases List.mem_cons.1 hq' with rfl | hq'
        · exact absurd hqv hy
        · exact hq q hq' hqv
    · obtain ⟨x, hx, hxv⟩ := h
      rcases List.mem_cons.1 hx with rfl | hx
      · refine ⟨x, List.mem_cons_self, hxv, fun q hq' hqv => ?_⟩
        rcases List.mem_cons.1 hq' with rfl | hq'
        · exact leV_refl _
        · exact absurd ⟨q, hq', hqv⟩ hl
      · exact absurd ⟨x, hx, hxv⟩ hl

/-! ### what the terms say there -/
def holdsV (c : List (List S54)) (x : S27) : Bool := c.any (groupOk false x.f0 x.f1 x.f2 x.f3)
theorem mem_block {i a b c : Int} {q : Int × Int × Int} (hi : i = 0 ∨ i = 1 ∨ i = 2) (h : blkI i a b c = some q) : rel3 q ∈ blocksTo 4 a b c := by
  have : rel3 q ∈ blkL i a b c := by
    unfold blkL
    rw [h]
    simp
  unfold blocksTo
  simp only [Int.reduceLE, if_true, List.mem_append]
  rcases hi with rfl | rfl | rfl
  · exact .inl (.inl this)
  · exact .inl (.inr this)
  · exact .inr this
theorem term_land (t : S54) (hg : goodT t = true) (ht : termR t) (pre : Bool) (v p : S27) (hv : isRel v) (hp : isRel p) (h : ∀ x, ofTerm t x → (leV x v ↔ leV x p)) : termOk t pre v.f0 v.f1 v.f2 EE = termOk t pre p.f0 p.f1 p.f2 EE := by
  obtain ⟨o, n, a', b', c', p'⟩ := t
  obtain ⟨a, b, c, q1, q2⟩ := v
  obtain ⟨x, y, z, q3, q4⟩ := p
  obtain ⟨ra', rb', rc'⟩ := ht
  obtain ⟨ra, rb, rc, _, _⟩ := hv
  obtain ⟨rx, ry, rz, _, _⟩ := hp
  simp only at ra' rb' rc' ra rb rc rx ry rz
  have hgt := goodTerm_iff hg
  unfold termOk
  rw [checkHolds_op hgt.1 hgt.2.1, checkHolds_op hgt.1 hgt.2.1]
  have F0 : le3 a' b' c' a b c ↔ le3 a' b' c' x y z := h _ (.inl rfl)
  have ua := up_eq ra'
  have ub := up_eq rb'
  have uc := up_eq rc'
  unfold inR at *
  have F1 : a' < a ↔ a' < x := by
    by_cases e : a' = 18446744073709551615
    · omega
    · rw [if_neg e] at ua
      have hb : blkI 0 a' b' c' = some (a' + 1, 0, 0) := by
        unfold blkI blk0
        rw [if_pos rfl, if_neg (by omega), ua]
      have := h _ (.inr (mem_block (.inl rfl) hb))
      unfold leV le3 rel3 at this
      simp only at this
      omega
  have F2 : (a' < a ∨ (a' = a ∧ b' < b)) ↔ (a' < x ∨ (a' = x ∧ b' < y)) := by
    by_cases e : b' = 18446744073709551615
    · omega
    · rw [if_neg e] at ub
      have hb : blkI 1 a' b' c' = some (a', b' + 1, 0) := by
        unfold blkI blk1
        rw [if_neg (by omega), if_pos rfl, if_neg (by omega), ub]
      have := h _ (.inr (mem_block (.inr (.inl rfl)) hb))
      unfold leV le3 rel3 at this
      simp only at this
      omega
  have F3 : lt3 a' b' c' a b c ↔ lt3 a' b' c' x y z := by
    unfold lt3
    by_cases e : c' = 18446744073709551615
    · omega
    · rw [if_neg e] at uc
      have hb : blkI 2 a' b' c' = some (a', b', c' + 1) := by
        unfold blkI blk2
        rw [if_neg (by omega), if_neg (by omega), if_pos rfl, if_neg (by omega), uc]
      have := h _ (.inr (mem_block (.inr (.inr rfl)) hb))
      unfold leV le3 rel3 at this
      simp only at this
      omega
  exact op_land o n a' b' c' p' hg pre a b c x y z (by omega) (by omega) (by omega) F0 F1 F2 F3
theorem holds_land (c : List (List S54)) (hg : ∀ l ∈ c, ∀ t ∈ l, goodT t = true) (hr : ∀ l ∈ c, ∀ t ∈ l, termR t) (v p : S27) (hv : isRel v) (hp : isRel p) (h : ∀ x ∈ pointsL c, (leV x v ↔ leV x p)) : holdsV c v = holdsV c p := by
  have key : ∀ l ∈ c, groupOk false v.f0 v.f1 v.f2 v.f3 l = groupOk false p.f0 p.f1 p.f2 p.f3 l := by
    intro l hl
    rw [hv.2.2.2.1, hp.2.2.2.1]
    unfold groupOk
    generalize (false || l.any hasPre) = pre
    rw [Bool.eq_iff_iff, List.all_eq_true, List.all_eq_true]
    constructor
    · intro hh t ht
      rw [← term_land t (hg l hl t ht) (hr l hl t ht) pre v p hv hp (fun x hx => h x (points_has hl ht hx))]
      exact hh t ht
    · intro hh t ht
      rw [term_land t (hg l hl t ht) (hr l hl t ht) pre v p hv hp (fun x hx => h x (points_has hl ht hx))]
      exact hh t ht
  unfold holdsV
  rw [Bool.eq_iff_iff, List.any_eq_true, List.any_eq_true]
  constructor
  · rintro ⟨l, hl, e⟩
    exact ⟨l, hl, by rw [← key l hl]; exact e⟩
  · rintro ⟨l, hl, e⟩
    exact ⟨l, hl, by rw [key l hl]; exact e⟩

/-! ### the least of them -/
def lessV (x y : S27) : Bool := decide (verCmp x.f0 x.f1 x.f2 x.f3 y.f0 y.f1 y.f2 y.f3 < 0)
def stepL (c : List (List S54)) (st : Bool × S27) (x : S27) : Bool × S27 := if (holdsV c x && (!st.1 || lessV x st.2)) = true then (true, x) else st
def leastL (c : List (List S54)) : Bool × S27 := (pointsL c).foldl (stepL c) (false, z27)
theorem lessV_iff {x y : S27} (hx : isRel x) (hy : isRel y) : lessV x y = true ↔ ¬ leV y x := by
  unfold lessV
  rw [decide_eq_true_iff, hx.2.2.2.1, hy.2.2.2.1]
  exact (ver_EE x.f0 x.f1 x.f2 y.f0 y.f1 y.f2 EE).1
theorem least_fold (c : List (List S54)) : ∀ (l : List S27) (st : Bool × S27), (∀ x ∈ l, isRel x) → isRel st.2 →
    (st.1 = true → (l.foldl (stepL c) st).1 = true ∧ leV (l.foldl (stepL c) st).2 st.2) ∧ isRel (l.foldl (stepL c) st).2 ∧ ∀ x ∈ l, holdsV c x = true → (l.foldl (stepL c) st).1 = true ∧ leV (l.foldl (stepL c) st).2 x
  | [], st, _, hs => ⟨fun h => ⟨h, leV_refl _⟩, hs, fun x hx => by cases hx⟩
  | y :: l, st, hl, hs => by
    have hy := hl y List.mem_cons_self
    have hl' : ∀ x ∈ l, isRel x := fun x hx => hl x (List.mem_cons_of_mem _ hx)
    rw [List.foldl_cons]
    by_cases hc : (holdsV c y && (!st.1 || lessV y st.2)) = true
    · have e : stepL c st y = (true, y) := by unfold stepL; rw [if_pos hc]
      rw [e]
      obtain ⟨i1, i2, i3⟩ := least_fold c l (true, y) hl' hy
      have i1 := i1 rfl
      refine ⟨fun h => ⟨i1.1, ?_⟩, i2, fun x hx hh => ?_⟩
      · rw [h] at hc
        simp only [Bool.not_true, Bool.false_or, Bool.and_eq_true] at hc
        have := (lessV_iff hy hs).1 hc.2
        rcases leV_total y st.2 with h1 | h1
        · exact leV_trans i1.2 h1
        · exact absurd h1 this
      · rcases List.mem_cons.1 hx with rfl | hx
        · exact i1
        · exact i3 x hx hh
    · have e : stepL c st y = st := by unfold stepL; rw [if_neg hc]
      rw [e]
      obtain ⟨i1, i2, i3⟩ := least_fold c l st hl' hs
      refine ⟨i1, i2, fun x hx hh => ?_⟩
      rcases List.mem_cons.1 hx with rfl | hx
      · rw [hh, Bool.true_and] at hc
        cases h1 : st.1 with
        | false => rw [h1] at hc; simp at hc
        | true =>
          rw [h1] at hc
          have hn : ¬ lessV x st.2 = true := by simpa using hc
          have hle : leV st.2 x := by
            rw [lessV_iff hy hs] at hn
            exact Classical.not_not.1 hn
          exact ⟨(i1 h1).1, leV_trans (i1 h1).2 hle⟩
      · exact i3 x hx hh
/-- If a release satisfies good terms, a least point does, and it is not above that release. -/
theorem least_law (c : List (List S54)) (hg : ∀ l ∈ c, ∀ t ∈ l, goodT t = true) (hr : ∀ l ∈ c, ∀ t ∈ l, termR t) (v : S27) (hv : isRel v) (hh : holdsV c v = true) :
    ((leastL c).1 && decide (verCmp (leastL c).2.f0 (leastL c).2.f1 (leastL c).2.f2 (leastL c).2.f3 v.f0 v.f1 v.f2 v.f3 ≤ 0)) = true := by
  have hrel := points_rel c hr
  have hz : leV z27 v := by
    obtain ⟨ra, rb, rc, _⟩ := hv
    unfold inR at *
    unfold leV le3 z27
    simp only
    omega
  obtain ⟨p, hp, hpv, hq⟩ := land_ex v (pointsL c) ⟨z27, points_zero c, hz⟩
  have hland := holds_land c hg hr v p hv (hrel p hp) (fun x hx => ⟨fun h => hq x hx h, fun h => leV_trans h hpv⟩)
  have hz' : isRel z27 := ⟨inR0, inR0, inR0, rfl, rfl⟩
  obtain ⟨_, i2, i3⟩ := least_fold c (pointsL c) (false, z27) hrel hz'
  obtain ⟨h1, h2⟩ := i3 p hp (by rw [← hland]; exact hh)
  have e1 : (leastL c).1 = true := h1
  have e2 : leV (leastL c).2 v := leV_trans h2 hpv
  have e3 : isRel (leastL c).2 := i2
  rw [e1, Bool.true_and, decide_eq_true_iff, e3.2.2.2.1, hv.2.2.2.1]
  have := (ver_EE (leastL c).2.f0 (leastL c).2.f1 (leastL c).2.f2 v.f0 v.f1 v.f2 EE).2.1
  have hn : ¬ verCmp (leastL c).2.f0 (leastL c).2.f1 (leastL c).2.f2 EE v.f0 v.f1 v.f2 EE > 0 := by
    rw [this]
    unfold leV le3 at e2
    unfold lt3
    rintro (h | ⟨_, _, _, h⟩)
    · omega
    · exact h rfl
  omega
end Go.Proofs.YtgenbmhmcnaiiaaDoor.H

/- The walk of laws.FnSemverLeastOne. -/
namespace Go.Proofs.YtgenbmhmcnaiiaaDoor.H
open Go.RowKit Go.Proofs.YtgenbmhmcnaiiaaDoor.PG Go.Proofs.YtgenbmhmcnaiiaaDoorW.PrintLast Go.Proofs.YtgenbmhmcnaiiaaDoorW.PrintMore
open Go.Proofs.YtgenbmhmcnaiiaaDoorW.PrintWords hiding Ev Ev.bind
set_option linter.unusedVariables false
set_option linter.unusedSimpArgs false

/-- A row of one list of lists that has just been made. -/
theorem C_one67 (W : World) (n : Nat) (hn : W.heap.size = n) {A0 : Option Addr} {c0 : Nat} {l0 : List (List S54)} (h : Kd.C (Kd.slice 54 k54) W A0 l0.length l0) (hc : l0.length ≤ c0) :
    Kd.C (Kd.slice 69 (Kd.slice 54 k54)) (W.alloc (.cells #[.slice A0 l0.length c0] 67)) (some ⟨n, 0, none⟩) 1 [l0] := by
  subst hn
  refine ⟨rfl, by decide, fun _ => ⟨_, rfl, fun j x hx => ?_⟩⟩
  match j, hx with
  | 0, hx =>
    obtain rfl : l0 = x := Option.some.inj hx
    refine ⟨[.slice A0 l0.length c0], rfl, ⟨A0, c0, rfl, hc, Kd.C_below h (below_new _ _)⟩, fun i u hu => ?_⟩
    match i, hu with
    | 0, hu =>
      obtain rfl := Option.some.inj hu
      have := heap_alloc_new W (.cells #[.slice A0 l0.length c0] 67)
      exact (blk_cell this 0).trans rfl
theorem less_f (x y : S27) (hx : x.f3.size ≤ 2147483647) (hy : y.f3.size ≤ 2147483647) : impl_VersionLess.f x.f0 x.f1 x.f2 x.f3 x.f4 y.f0 y.f1 y.f2 y.f3 y.f4 = some (lessV x y) := vless_of hx hy
theorem le_f (st : S27) (a b c : Int) (hs : st.f3.size ≤ 2147483647) : impl_VersionLessEqual.f st.f0 st.f1 st.f2 st.f3 st.f4 a b c ⟨#[]⟩ ⟨#[]⟩ = some (decide (verCmp st.f0 st.f1 st.f2 st.f3 a b c ⟨#[]⟩ ≤ 0)) := by
  unfold impl_VersionLessEqual.f
  rw [if_pos ⟨hs, by decide⟩]
theorem stepL_no {c : List (List S54)} {st : Bool × S27} {x : S27} (h : holdsV c x = false) : stepL c st x = st := by
  unfold stepL
  rw [h]
  rfl
theorem stepL_first {c : List (List S54)} {y x : S27} (h : holdsV c x = true) : stepL c (false, y) x = (true, x) := by
  unfold stepL
  rw [h]
  rfl
theorem stepL_less {c : List (List S54)} {y x : S27} (h : holdsV c x = true) (h' : lessV x y = true) : stepL c (true, y) x = (true, x) := by
  unfold stepL
  rw [h, h']
  rfl
theorem stepL_more {c : List (List S54)} {y x : S27} (h : holdsV c x = true) (h' : lessV x y = false) : stepL c (true, y) x = (true, y) := by
  unfold stepL
  rw [h, h']
  rfl

set_option maxRecDepth 100000 in
set_option maxHeartbeats 4000000 in
theorem least_unfit1 (k : Nat) (A0 : Option Addr) (c0 : Nat) (l0 : List (List S54)) (a b c : Int) (p m : ByteArray) (w : World) (hr0 : Kd.C (Kd.slice 54 k54) w A0 l0.length l0) (hc0 : l0.length ≤ c0) (h11 : laws_zzFits11.f k l0 = some false) :
    Calls Tryd.prog 19 #[.slice A0 l0.length c0, .agg #[.int .u64 a, .int .u64 b, .int .u64 c, .string p, .string m]] w fun e w' => e = .returned (.bool true) ∧ Below w.heap.size w w' := by
  have hu27 := Tryd.underlying27
  have hu43 := Tryd.underlying43
  have HR0 := Aside0.mk hr0
  have HC0 := Aside0.mk hc0
  have hV0 := Aside0.mk (heap_alloc_new w (.cells #[.int .u64 a, .int .u64 b, .int .u64 c, .string p, .string m] 27))
  clear hr0 hc0
  have H11 := Aside0.mk h11
  clear h11
  go_enter Tryd.func19, Tryd.ntmps19
  go_wp2_with (go_at_call 68; refine (laws_zzFits11.calls k _ _ _ _ _ (Kd.C_below HR0.out (below_new _ _)) HC0.out H11.out).mono ?_; rintro e w1 ⟨rfl, hb⟩; have B1 : Aside0 (Below w.heap.size w w1) := Aside0.mk (chain (below_new _ _) hb); have V1 := (hb.block _ (blk_lt hV0.out)).trans hV0.out; have z0 : w1.cell? ⟨w.heap.size, 0, none⟩ = some (.int .u64 a) := (blk_cell V1 0).trans rfl; have z1 : w1.cell? ⟨w.heap.size, 1, none⟩ = some (.int .u64 b) := (blk_cell V1 1).trans rfl; have z2 : w1.cell? ⟨w.heap.size, 2, none⟩ = some (.int .u64 c) := (blk_cell V1 2).trans rfl; have z3 : w1.cell? ⟨w.heap.size, 3, none⟩ = some (.string p) := (blk_cell V1 3).trans rfl; have z4 : w1.cell? ⟨w.heap.size, 4, none⟩ = some (.string m) := (blk_cell V1 4).trans rfl; replace V1 := Aside0.mk V1; clear hb)
  go_ret
  exact ⟨rfl, B1.out⟩
set_option maxRecDepth 100000 in
set_option maxHeartbeats 4000000 in
theorem least_unfit2 (k : Nat) (A0 : Option Addr) (c0 : Nat) (l0 : List (List S54)) (a b c : Int) (p m : ByteArray) (w : World) (hr0 : Kd.C (Kd.slice 54 k54) w A0 l0.length l0) (hc0 : l0.length ≤ c0) (h11 : laws_zzFits11.f k l0 = some true) (h14 : laws_zzFits14.f a b c p m = some false) :
    Calls Tryd.prog 19 #[.slice A0 l0.length c0, .agg #[.int .u64 a, .int .u64 b, .int .u64 c, .string p, .string m]] w fun e w' => e = .returned (.bool true) ∧ Below w.heap.size w w' := by
  have hu27 := Tryd.underlying27
  have hu43 := Tryd.underlying43
  have HR0 := Aside0.mk hr0
  have HC0 := Aside0.mk hc0
  have hV0 := Aside0.mk (heap_alloc_new w (.cells #[.int .u64 a, .int .u64 b, .int .u64 c, .string p, .string m] 27))
  clear hr0 hc0
  have H11 := Aside0.mk h11
  have H14 := Aside0.mk h14
  clear h11 h14
  go_enter Tryd.func19, Tryd.ntmps19
  go_wp2_with (first | (go_at_call 68; refine (laws_zzFits11.calls k _ _ _ _ _ (Kd.C_below HR0.out (below_new _ _)) HC0.out H11.out).mono ?_; rintro e w1 ⟨rfl, hb⟩; have B1 : Aside0 (Below w.heap.size w w1) := Aside0.mk (chain (below_new _ _) hb); have V1 := (hb.block _ (blk_lt hV0.out)).trans hV0.out; have z0 : w1.cell? ⟨w.heap.size, 0, none⟩ = some (.int .u64 a) := (blk_cell V1 0).trans rfl; have z1 : w1.cell? ⟨w.heap.size, 1, none⟩ = some (.int .u64 b) := (blk_cell V1 1).trans rfl; have z2 : w1.cell? ⟨w.heap.size, 2, none⟩ = some (.int .u64 c) := (blk_cell V1 2).trans rfl; have z3 : w1.cell? ⟨w.heap.size, 3, none⟩ = some (.string p) := (blk_cell V1 3).trans rfl; have z4 : w1.cell? ⟨w.heap.size, 4, none⟩ = some (.string m) := (blk_cell V1 4).trans rfl; replace V1 := Aside0.mk V1; clear hb) | (go_at_call 24; refine (laws_zzFits14.calls _ _ _ _ _ _ _ H14.out).mono ?_; rintro e w2 ⟨rfl, hb⟩; have B2 : Aside0 (Below w.heap.size w w2) := Aside0.mk (chain B1.out hb); clear z0 z1 z2 z3 z4; have V2 := (hb.block _ (blk_lt V1.out)).trans V1.out; have z0 : w2.cell? ⟨w.heap.size, 0, none⟩ = some (.int .u64 a) := (blk_cell V2 0).trans rfl; have z1 : w2.cell? ⟨w.heap.size, 1, none⟩ = some (.int .u64 b) := (blk_cell V2 1).trans rfl; have z2 : w2.cell? ⟨w.heap.size, 2, none⟩ = some (.int .u64 c) := (blk_cell V2 2).trans rfl; have z3 : w2.cell? ⟨w.heap.size, 3, none⟩ = some (.string p) := (blk_cell V2 3).trans rfl; have z4 : w2.cell? ⟨w.heap.size, 4, none⟩ = some (.string m) := (blk_cell V2 4).trans rfl; replace V2 := Aside0.mk V2; clear hb))
  go_ret
  exact ⟨rfl, B2.out⟩

theorem Keeps.put5 (w : World) (g : Nat) (v0 v1 v2 v3 v4 : Value) : Keeps w (put5 w g v0 v1 v2 v3 v4) (some g) := by
  have h := put5_KB w g v0 v1 v2 v3 v4
  exact ⟨h.1, fun k hk hne => h.2 k (fun e => hne (by rw [e])) hk⟩

set_option maxRecDepth 100000 in
set_option maxHeartbeats 8000000 in
theorem least_found (k : Nat) (A0 : Option Addr) (c0 : Nat) (l0 : List (List S54)) (a b c : Int) (p m : ByteArray) (w : World) (hr0 : Kd.C (Kd.slice 54 k54) w A0 l0.length l0) (hc0 : l0.length ≤ c0) (hG : GE w) (hl : l0.length ≤ 2147483647) (hsum : (l0.map List.length).sum ≤ 100000) (h11 : laws_zzFits11.f k l0 = some true) (h14 : laws_zzFits14.f a b c p m = some true) (hsi : laws_siGood.f k [l0] = some true)
    (hth : impl_TermsHold.f l0 a b c ⟨#[]⟩ ⟨#[]⟩ false = some true) (hTH : ∀ x ∈ pointsL l0, impl_TermsHold.f l0 x.f0 x.f1 x.f2 x.f3 x.f4 false = some (holdsV l0 x)) (hE : ∀ x ∈ pointsL l0, x.f3.size ≤ 2147483647) :
    Calls Tryd.prog 19 #[.slice A0 l0.length c0, .agg #[.int .u64 a, .int .u64 b, .int .u64 c, .string p, .string m]] w fun e w' => e = .returned (.bool ((leastL l0).1 && decide (verCmp (leastL l0).2.f0 (leastL l0).2.f1 (leastL l0).2.f2 (leastL l0).2.f3 a b c ⟨#[]⟩ ≤ 0))) ∧ Below w.heap.size w w' := by
  have hu27 := Tryd.underlying27
  have hu43 := Tryd.underlying43
  have HR0 := Aside0.mk hr0
  have HC0 := Aside0.mk hc0
  have hV0 := Aside0.mk (heap_alloc_new w (.cells #[.int .u64 a, .int .u64 b, .int .u64 c, .string p, .string m] 27))
  clear hr0 hc0
  have H11 := Aside0.mk h11
  have H14 := Aside0.mk h14
  have HSI := Aside0.mk hsi
  have HTH := Aside0.mk hth
  have HTA := Aside0.mk hTH
  have HEA := Aside0.mk hE
  have HG := Aside0.mk hG
  have HL := Aside0.mk hl
  have HS := Aside0.mk hsum
  have HPL : Aside0 ((pointsL l0).length ≤ 1300001) := ⟨by
    have h1 := outer_len l0 [z27]
    have h2 : (pointsL l0).length = (l0.foldl ptsT [z27]).length := rfl
    simp only [List.length_cons, List.length_nil] at h1
    omega⟩
  clear h11 h14 hsi hth hTH hE hG hl hsum
  go_enter Tryd.func19, Tryd.ntmps19
  go_wp2_with (first | (go_at_call 68; refine (laws_zzFits11.calls k _ _ _ _ _ (Kd.C_below HR0.out (below_new _ _)) HC0.out H11.out).mono ?_; rintro e w1 ⟨rfl, hb⟩; have B1 : Aside0 (Below w.heap.size w w1) := Aside0.mk (chain (below_new _ _) hb); have V1 := (hb.block _ (blk_lt hV0.out)).trans hV0.out; have z0 : w1.cell? ⟨w.heap.size, 0, none⟩ = some (.int .u64 a) := (blk_cell V1 0).trans rfl; have z1 : w1.cell? ⟨w.heap.size, 1, none⟩ = some (.int .u64 b) := (blk_cell V1 1).trans rfl; have z2 : w1.cell? ⟨w.heap.size, 2, none⟩ = some (.int .u64 c) := (blk_cell V1 2).trans rfl; have z3 : w1.cell? ⟨w.heap.size, 3, none⟩ = some (.string p) := (blk_cell V1 3).trans rfl; have z4 : w1.cell? ⟨w.heap.size, 4, none⟩ = some (.string m) := (blk_cell V1 4).trans rfl; replace V1 := Aside0.mk V1; clear hb) | (go_at_call 24; refine (laws_zzFits14.calls _ _ _ _ _ _ _ H14.out).mono ?_; rintro e w2 ⟨rfl, hb⟩; have B2 : Aside0 (Below w.heap.size w w2) := Aside0.mk (chain B1.out hb); clear z0 z1 z2 z3 z4; have V2 := (hb.block _ (blk_lt V1.out)).trans V1.out; have z0 : w2.cell? ⟨w.heap.size, 0, none⟩ = some (.int .u64 a) := (blk_cell V2 0).trans rfl; have z1 : w2.cell? ⟨w.heap.size, 1, none⟩ = some (.int .u64 b) := (blk_cell V2 1).trans rfl; have z2 : w2.cell? ⟨w.heap.size, 2, none⟩ = some (.int .u64 c) := (blk_cell V2 2).trans rfl; have z3 : w2.cell? ⟨w.heap.size, 3, none⟩ = some (.string p) := (blk_cell V2 3).trans rfl; have z4 : w2.cell? ⟨w.heap.size, 4, none⟩ = some (.string m) := (blk_cell V2 4).trans rfl; replace V2 := Aside0.mk V2; clear hb) | (go_at_call 41; refine (spec_Bare.calls _ _ _ _ _ _ _ _ _ _ _ rfl).mono ?_; rintro e w3 ⟨rfl, hb⟩; have B3 : Aside0 (Below w.heap.size w w3) := Aside0.mk (chain B2.out hb); clear z0 z1 z2 z3 z4; have V3 := (hb.block _ (blk_lt V2.out)).trans V2.out; have z0 : w3.cell? ⟨w.heap.size, 0, none⟩ = some (.int .u64 a) := (blk_cell V3 0).trans rfl; have z1 : w3.cell? ⟨w.heap.size, 1, none⟩ = some (.int .u64 b) := (blk_cell V3 1).trans rfl; have z2 : w3.cell? ⟨w.heap.size, 2, none⟩ = some (.int .u64 c) := (blk_cell V3 2).trans rfl; have z3 : w3.cell? ⟨w.heap.size, 3, none⟩ = some (.string p) := (blk_cell V3 3).trans rfl; have z4 : w3.cell? ⟨w.heap.size, 4, none⟩ = some (.string m) := (blk_cell V3 4).trans rfl; have f0 := blk_frozen V3 0; have f1 := blk_frozen V3 1; have f2 := blk_frozen V3 2; have f3 := blk_frozen V3 3; have f4 := blk_frozen V3 4; have D4 : Aside0 (Below w.heap.size w (put5 w3 w.heap.size (.int .u64 a) (.int .u64 b) (.int .u64 c) (.string ⟨#[]⟩) (.string ⟨#[]⟩))) := Aside0.mk (put5_below _ _ _ _ _ B3.out (Nat.le_refl _)); have V4 := Aside0.mk (put5_blk (.int .u64 a) (.int .u64 b) (.int .u64 c) (.string (⟨#[]⟩ : ByteArray)) (.string (⟨#[]⟩ : ByteArray)) V3); have S4 : Aside0 ((put5 w3 w.heap.size (.int .u64 a) (.int .u64 b) (.int .u64 c) (.string ⟨#[]⟩) (.string ⟨#[]⟩)).heap.size = w3.heap.size) := Aside0.mk (by simp [put5]); replace V3 := Aside0.mk V3; clear hb) | (go_at_call 71; clear z0 z1 z2 z3 z4; refine (laws_siGood.calls k (some ⟨w3.heap.size, 0, none⟩) 1 [l0] true ((put5 w3 w.heap.size (.int .u64 a) (.int .u64 b) (.int .u64 c) (.string ⟨#[]⟩) (.string ⟨#[]⟩)).alloc (.cells #[.slice A0 l0.length c0] 67)) (C_one67 (put5 w3 w.heap.size (.int .u64 a) (.int .u64 b) (.int .u64 c) (.string ⟨#[]⟩) (.string ⟨#[]⟩)) _ S4.out (Kd.C_below HR0.out D4.out) HC0.out) (Nat.le_refl 1) HSI.out).mono ?_; rintro e w5 ⟨rfl, hb⟩; have B5 : Aside0 (Below w.heap.size w w5) := Aside0.mk (chain (chain D4.out (below_new _ _)) hb); have V5 := (hb.block _ (Nat.lt_of_lt_of_le (blk_lt V4.out) (below_new _ _).size)).trans (((below_new (put5 w3 w.heap.size (.int .u64 a) (.int .u64 b) (.int .u64 c) (.string ⟨#[]⟩) (.string ⟨#[]⟩)) (.cells #[.slice A0 l0.length c0] 67)).block _ (blk_lt V4.out)).trans V4.out); have z0 : w5.cell? ⟨w.heap.size, 0, none⟩ = some (.int .u64 a) := (blk_cell V5 0).trans rfl; have z1 : w5.cell? ⟨w.heap.size, 1, none⟩ = some (.int .u64 b) := (blk_cell V5 1).trans rfl; have z2 : w5.cell? ⟨w.heap.size, 2, none⟩ = some (.int .u64 c) := (blk_cell V5 2).trans rfl; have z3 : w5.cell? ⟨w.heap.size, 3, none⟩ = some (.string ⟨#[]⟩) := (blk_cell V5 3).trans rfl; have z4 : w5.cell? ⟨w.heap.size, 4, none⟩ = some (.string ⟨#[]⟩) := (blk_cell V5 4).trans rfl; replace V5 := Aside0.mk V5; clear hb f0 f1 f2 f3 f4) | (go_at_call 70; refine (impl_TermsHold.calls A0 c0 l0 a b c ⟨#[]⟩ ⟨#[]⟩ false true w5 (Kd.C_below HR0.out B5.out) HC0.out (HG.out.below B5.out) HTH.out).mono ?_; rintro e w6 ⟨rfl, hb⟩; clear z0 z1 z2 z3 z4; have B6 : Aside0 (Below w.heap.size w w6) := Aside0.mk (chain B5.out hb); have V6 := (hb.block _ (blk_lt V5.out)).trans V5.out; have z0 : w6.cell? ⟨w.heap.size, 0, none⟩ = some (.int .u64 a) := (blk_cell V6 0).trans rfl; have z1 : w6.cell? ⟨w.heap.size, 1, none⟩ = some (.int .u64 b) := (blk_cell V6 1).trans rfl; have z2 : w6.cell? ⟨w.heap.size, 2, none⟩ = some (.int .u64 c) := (blk_cell V6 2).trans rfl; have z3 : w6.cell? ⟨w.heap.size, 3, none⟩ = some (.string ⟨#[]⟩) := (blk_cell V6 3).trans rfl; have z4 : w6.cell? ⟨w.heap.size, 4, none⟩ = some (.string ⟨#[]⟩) := (blk_cell V6 4).trans rfl; replace V6 := Aside0.mk V6; clear hb) | (go_at_call 73; refine (points_calls A0 c0 l0 (w6.alloc (.cells #[.int .u64 0, .int .u64 0, .int .u64 0, .string ⟨#[]⟩, .string ⟨#[]⟩] 27)) (Kd.C_below HR0.out (chain B6.out (below_new _ _))) HC0.out HL.out HS.out).mono ?_; rintro e w7 ⟨⟨vp, rfl, hR⟩, hb⟩; clear z0 z1 z2 z3 z4; have B7 : Aside0 (Below w.heap.size w w7) := Aside0.mk (chain (chain B6.out (below_new _ _)) hb); have V7 := Aside0.mk ((hb.block _ (Nat.lt_of_lt_of_le (blk_lt V6.out) (below_new _ _).size)).trans (((below_new w6 (.cells #[.int .u64 0, .int .u64 0, .int .u64 0, .string ⟨#[]⟩, .string ⟨#[]⟩] 27)).block _ (blk_lt V6.out)).trans V6.out)); have G7 := Aside0.mk ((hb.block _ (blk_lt (heap_alloc_new w6 (.cells #[.int .u64 0, .int .u64 0, .int .u64 0, .string ⟨#[]⟩, .string ⟨#[]⟩] 27)))).trans (heap_alloc_new w6 (.cells #[.int .u64 0, .int .u64 0, .int .u64 0, .string ⟨#[]⟩, .string ⟨#[]⟩] 27))); have R7 : Aside0 (∀ k, vp.ownBlock = some k → w6.heap.size + 1 ≤ k) := ⟨fun k hk => by have := (R_own_lt hR hk).1; simpa using this⟩; obtain ⟨Ap, cp, rfl, _, hCp⟩ := Kd.R_reads hR; have CP := Aside0.mk hCp; clear hb hR hCp))
  have HG5 : Aside0 (w.heap.size ≤ w6.heap.size) := ⟨B6.out.size⟩
  have HNE : Aside0 (∀ ad, Ap = some ad → some ad.block ≠ some w6.heap.size) := ⟨fun ad e h => by
    have h1 := R7.out ad.block (by rw [e]; rfl)
    have h2 : ad.block = w6.heap.size := Option.some.inj h
    omega⟩
  obtain ⟨kk, hkk⟩ : ∃ kk, kk = (pointsL l0).length + 1 := ⟨_, rfl⟩
  have HLL : Aside0 (leastL l0 = (pointsL l0).foldl (stepL l0) (false, z27)) := ⟨rfl⟩
  generalize pointsL l0 = pl at *
  go_loopg [6, 42] kk (fun kq v6 v42 w' => ∃ (x42 : Int) (q : Bool) (st : S27), v6 = .bool q ∧ v42 = .int .i64 x42 ∧ Aside0 ((q, st) = (pl.take x42.toNat).foldl (stepL l0) (false, z27)) ∧ Aside0 (st.f3.size ≤ 2147483647) ∧ Aside0 (x42.toNat + kq = pl.length + 1) ∧ Aside0 (0 ≤ x42 ∧ x42 ≤ pl.length) ∧ Aside0 (kq ≤ kk) ∧ Aside0 (w'.heap[w6.heap.size]? = some (.cells #[.int .u64 st.f0, .int .u64 st.f1, .int .u64 st.f2, .string st.f3, .string st.f4] 27 (0, 0))) ∧ Aside0 (Keeps w7 w' (some w6.heap.size)) ∧ Aside0 (Below w.heap.size w w'))
  case atStart => exact ⟨0, false, z27, rfl, rfl, ⟨by simp⟩, ⟨by decide⟩, ⟨by simp [hkk]⟩, ⟨by omega⟩, ⟨Nat.le_refl _⟩, G7, ⟨Keeps.refl _ _⟩, B7⟩
  case round =>
    obtain ⟨x42, q, st, rfl, rfl, HQ, HSt, HA, HX0, HK, HLs, HKp, HB⟩ := hrel
    cases gk with
    | zero => exact absurd HA.out (by have := HX0.out; omega)
    | succ k1 =>
      clear hkk
      rename World => wi
      by_cases c2 : x42 < (pl.length : Int)
      · have c2b0 : decide (x42 < (pl.length : Int)) = true := decide_eq_true c2
        have p170 : 0 ≤ (x42 : Int) := HX0.out.1
        have q170 : x42 < (pl.length : Int) := c2
        have T := Aside0.mk (take_nextD (d := z27) (by have := HPL.out; omega) p170 q170)
        have W1 : Aside0 ((wrap64 (x42 + 1)).toNat + k1 = pl.length + 1 ∧ 0 ≤ wrap64 (x42 + 1) ∧ wrap64 (x42 + 1) ≤ pl.length) := ⟨by have := HPL.out; have := HA.out; unfold wrap64; omega⟩
        obtain ⟨ad170, e170, hx0, hx1, hx2, hx3, hx4⟩ := at_T27 CP.out x42 p170 q170
        have hrow := HNE.out _ e170
        cases e170
        have hba : (ad170.add (x42.toNat * 5)).block = ad170.block := add_block _ _
        replace hx0 := HKp.out.cell hx0 (by rw [hba]; exact hrow)
        replace hx1 := HKp.out.cell hx1 (by show some (ad170.add (x42.toNat * 5)).block ≠ _; rw [hba]; exact hrow)
        replace hx2 := HKp.out.cell hx2 (by show some (ad170.add (x42.toNat * 5)).block ≠ _; rw [hba]; exact hrow)
        replace hx3 := HKp.out.cell hx3 (by show some (ad170.add (x42.toNat * 5)).block ≠ _; rw [hba]; exact hrow)
        replace hx4 := HKp.out.cell hx4 (by show some (ad170.add (x42.toNat * 5)).block ≠ _; rw [hba]; exact hrow)
        clear hrow hba
        have hmem : rd_T27 pl x42 ∈ pl := by
          have hx : x42.toNat < pl.length := by omega
          unfold rd_T27
          rw [List.getD_eq_getElem?_getD, List.getElem?_eq_getElem hx]
          exact List.getElem_mem hx
        have HX := Aside0.mk (HTA.out _ hmem)
        have HXE := Aside0.mk (HEA.out _ hmem)
        have HNx : Aside0 (stepL l0 ((pl.take x42.toNat).foldl (stepL l0) (false, z27)) (rd_T27 pl x42) = (pl.take (wrap64 (x42 + 1)).toNat).foldl (stepL l0) (false, z27)) := ⟨by rw [← T.out, List.foldl_append]; rfl⟩
        replace p170 := eq_true p170
        replace q170 := eq_true q170
        clear c2 T hmem
        generalize rd_T27 pl x42 = vx at *
        cases hH : holdsV l0 vx with
        | false =>
          rw [hH] at HX
          go_wp2_with (go_at_call 70; refine (impl_TermsHold.calls A0 c0 l0 vx.f0 vx.f1 vx.f2 vx.f3 vx.f4 false false (wi.alloc (.cells #[.int .u64 vx.f0, .int .u64 vx.f1, .int .u64 vx.f2, .string vx.f3, .string vx.f4] 27)) (Kd.C_below HR0.out (chain HB.out (below_new _ _))) HC0.out (HG.out.below (chain HB.out (below_new _ _))) HX.out).mono ?_; rintro e w8 ⟨rfl, hb⟩; have B8 : Aside0 (Below wi.heap.size wi w8) := Aside0.mk (chain (below_new _ _) hb); have V8 : w8.heap[wi.heap.size]? = some (.cells #[.int .u64 vx.f0, .int .u64 vx.f1, .int .u64 vx.f2, .string vx.f3, .string vx.f4] 27 (0, 0)) := (hb.block _ (blk_lt (heap_alloc_new wi _))).trans (heap_alloc_new wi _); have x0 : w8.cell? ⟨wi.heap.size, 0, none⟩ = some (.int .u64 vx.f0) := (blk_cell V8 0).trans rfl; have x1 : w8.cell? ⟨wi.heap.size, 1, none⟩ = some (.int .u64 vx.f1) := (blk_cell V8 1).trans rfl; have x2 : w8.cell? ⟨wi.heap.size, 2, none⟩ = some (.int .u64 vx.f2) := (blk_cell V8 2).trans rfl; have x3 : w8.cell? ⟨wi.heap.size, 3, none⟩ = some (.string vx.f3) := (blk_cell V8 3).trans rfl; have x4 : w8.cell? ⟨wi.heap.size, 4, none⟩ = some (.string vx.f4) := (blk_cell V8 4).trans rfl; have L8 : w8.heap[w6.heap.size]? = some (.cells #[.int .u64 st.f0, .int .u64 st.f1, .int .u64 st.f2, .string st.f3, .string st.f4] 27 (0, 0)) := (B8.out.block _ (blk_lt HLs.out)).trans HLs.out; have y0 : w8.cell? ⟨w6.heap.size, 0, none⟩ = some (.int .u64 st.f0) := (blk_cell L8 0).trans rfl; have y1 : w8.cell? ⟨w6.heap.size, 1, none⟩ = some (.int .u64 st.f1) := (blk_cell L8 1).trans rfl; have y2 : w8.cell? ⟨w6.heap.size, 2, none⟩ = some (.int .u64 st.f2) := (blk_cell L8 2).trans rfl; have y3 : w8.cell? ⟨w6.heap.size, 3, none⟩ = some (.string st.f3) := (blk_cell L8 3).trans rfl; have y4 : w8.cell? ⟨w6.heap.size, 4, none⟩ = some (.string st.f4) := (blk_cell L8 4).trans rfl; have g0 := blk_frozen L8 0; have g1 := blk_frozen L8 1; have g2 := blk_frozen L8 2; have g3 := blk_frozen L8 3; have g4 := blk_frozen L8 4; replace V8 := Aside0.mk V8; replace L8 := Aside0.mk L8; clear hb)
          go_roundg k1
          case measure => have := HK.out; omega
          case rel => exact ⟨wrap64 (x42 + 1), q, st, rfl, rfl, ⟨by rw [← HNx.out, ← HQ.out]; exact (stepL_no hH).symm⟩, HSt, ⟨W1.out.1⟩, ⟨W1.out.2⟩, ⟨by have := HK.out; omega⟩, L8, ⟨HKp.out.then_below B8.out⟩, ⟨chain HB.out B8.out⟩⟩
        | true =>
          rw [hH] at HX
          cases q with
          | false =>
            go_wp2_with (go_at_call 70; refine (impl_TermsHold.calls A0 c0 l0 vx.f0 vx.f1 vx.f2 vx.f3 vx.f4 false true (wi.alloc (.cells #[.int .u64 vx.f0, .int .u64 vx.f1, .int .u64 vx.f2, .string vx.f3, .string vx.f4] 27)) (Kd.C_below HR0.out (chain HB.out (below_new _ _))) HC0.out (HG.out.below (chain HB.out (below_new _ _))) HX.out).mono ?_; rintro e w8 ⟨rfl, hb⟩; have B8 : Aside0 (Below wi.heap.size wi w8) := Aside0.mk (chain (below_new _ _) hb); have V8 : w8.heap[wi.heap.size]? = some (.cells #[.int .u64 vx.f0, .int .u64 vx.f1, .int .u64 vx.f2, .string vx.f3, .string vx.f4] 27 (0, 0)) := (hb.block _ (blk_lt (heap_alloc_new wi _))).trans (heap_alloc_new wi _); have x0 : w8.cell? ⟨wi.heap.size, 0, none⟩ = some (.int .u64 vx.f0) := (blk_cell V8 0).trans rfl; have x1 : w8.cell? ⟨wi.heap.size, 1, none⟩ = some (.int .u64 vx.f1) := (blk_cell V8 1).trans rfl; have x2 : w8.cell? ⟨wi.heap.size, 2, none⟩ = some (.int .u64 vx.f2) := (blk_cell V8 2).trans rfl; have x3 : w8.cell? ⟨wi.heap.size, 3, none⟩ = some (.string vx.f3) := (blk_cell V8 3).trans rfl; have x4 : w8.cell? ⟨wi.heap.size, 4, none⟩ = some (.string vx.f4) := (blk_cell V8 4).trans rfl; have L8 : w8.heap[w6.heap.size]? = some (.cells #[.int .u64 st.f0, .int .u64 st.f1, .int .u64 st.f2, .string st.f3, .string st.f4] 27 (0, 0)) := (B8.out.block _ (blk_lt HLs.out)).trans HLs.out; have y0 : w8.cell? ⟨w6.heap.size, 0, none⟩ = some (.int .u64 st.f0) := (blk_cell L8 0).trans rfl; have y1 : w8.cell? ⟨w6.heap.size, 1, none⟩ = some (.int .u64 st.f1) := (blk_cell L8 1).trans rfl; have y2 : w8.cell? ⟨w6.heap.size, 2, none⟩ = some (.int .u64 st.f2) := (blk_cell L8 2).trans rfl; have y3 : w8.cell? ⟨w6.heap.size, 3, none⟩ = some (.string st.f3) := (blk_cell L8 3).trans rfl; have y4 : w8.cell? ⟨w6.heap.size, 4, none⟩ = some (.string st.f4) := (blk_cell L8 4).trans rfl; have g0 := blk_frozen L8 0; have g1 := blk_frozen L8 1; have g2 := blk_frozen L8 2; have g3 := blk_frozen L8 3; have g4 := blk_frozen L8 4; replace V8 := Aside0.mk V8; replace L8 := Aside0.mk L8; clear hb)
            go_roundg k1
            case measure => have := HK.out; omega
            case rel => exact ⟨wrap64 (x42 + 1), true, vx, rfl, rfl, ⟨by rw [← HNx.out, ← HQ.out]; exact (stepL_first hH).symm⟩, HXE, ⟨W1.out.1⟩, ⟨W1.out.2⟩, ⟨by have := HK.out; omega⟩, ⟨put5_blk _ _ _ _ _ L8.out⟩, ⟨(HKp.out.then_below B8.out).trans (Keeps.put5 _ _ _ _ _ _ _) (.inl rfl)⟩, ⟨put5_below _ _ _ _ _ (chain HB.out B8.out) HG5.out⟩⟩
          | true =>
            have HLess : Aside0 (impl_VersionLess.f vx.f0 vx.f1 vx.f2 vx.f3 vx.f4 st.f0 st.f1 st.f2 st.f3 st.f4 = some (lessV vx st)) := ⟨less_f vx st HXE.out HSt.out⟩
            cases hS : lessV vx st with
            | false =>
              rw [hS] at HLess
              go_wp2_with (first | (go_at_call 70; refine (impl_TermsHold.calls A0 c0 l0 vx.f0 vx.f1 vx.f2 vx.f3 vx.f4 false true (wi.alloc (.cells #[.int .u64 vx.f0, .int .u64 vx.f1, .int .u64 vx.f2, .string vx.f3, .string vx.f4] 27)) (Kd.C_below HR0.out (chain HB.out (below_new _ _))) HC0.out (HG.out.below (chain HB.out (below_new _ _))) HX.out).mono ?_; rintro e w8 ⟨rfl, hb⟩; have B8 : Aside0 (Below wi.heap.size wi w8) := Aside0.mk (chain (below_new _ _) hb); have V8 : w8.heap[wi.heap.size]? = some (.cells #[.int .u64 vx.f0, .int .u64 vx.f1, .int .u64 vx.f2, .string vx.f3, .string vx.f4] 27 (0, 0)) := (hb.block _ (blk_lt (heap_alloc_new wi _))).trans (heap_alloc_new wi _); have x0 : w8.cell? ⟨wi.heap.size, 0, none⟩ = some (.int .u64 vx.f0) := (blk_cell V8 0).trans rfl; have x1 : w8.cell? ⟨wi.heap.size, 1, none⟩ = some (.int .u64 vx.f1) := (blk_cell V8 1).trans rfl; have x2 : w8.cell? ⟨wi.heap.size, 2, none⟩ = some (.int .u64 vx.f2) := (blk_cell V8 2).trans rfl; have x3 : w8.cell? ⟨wi.heap.size, 3, none⟩ = some (.string vx.f3) := (blk_cell V8 3).trans rfl; have x4 : w8.cell? ⟨wi.heap.size, 4, none⟩ = some (.string vx.f4) := (blk_cell V8 4).trans rfl; have L8 : w8.heap[w6.heap.size]? = some (.cells #[.int .u64 st.f0, .int .u64 st.f1, .int .u64 st.f2, .string st.f3, .string st.f4] 27 (0, 0)) := (B8.out.block _ (blk_lt HLs.out)).trans HLs.out; have y0 : w8.cell? ⟨w6.heap.size, 0, none⟩ = some (.int .u64 st.f0) := (blk_cell L8 0).trans rfl; have y1 : w8.cell? ⟨w6.heap.size, 1, none⟩ = some (.int .u64 st.f1) := (blk_cell L8 1).trans rfl; have y2 : w8.cell? ⟨w6.heap.size, 2, none⟩ = some (.int .u64 st.f2) := (blk_cell L8 2).trans rfl; have y3 : w8.cell? ⟨w6.heap.size, 3, none⟩ = some (.string st.f3) := (blk_cell L8 3).trans rfl; have y4 : w8.cell? ⟨w6.heap.size, 4, none⟩ = some (.string st.f4) := (blk_cell L8 4).trans rfl; have g0 := blk_frozen L8 0; have g1 := blk_frozen L8 1; have g2 := blk_frozen L8 2; have g3 := blk_frozen L8 3; have g4 := blk_frozen L8 4; replace V8 := Aside0.mk V8; replace L8 := Aside0.mk L8; clear hb) | (go_at_call 38; refine (impl_VersionLess.calls _ _ _ _ _ _ _ _ _ _ _ w8 (HG.out.below (chain HB.out B8.out)) HLess.out).mono ?_; rintro e w9 ⟨rfl, hb⟩; clear x0 x1 x2 x3 x4 y0 y1 y2 y3 y4 g0 g1 g2 g3 g4; have B9 : Aside0 (Below wi.heap.size wi w9) := Aside0.mk (chain B8.out hb); have V9 := (hb.block _ (blk_lt V8.out)).trans V8.out; have x0 : w9.cell? ⟨wi.heap.size, 0, none⟩ = some (.int .u64 vx.f0) := (blk_cell V9 0).trans rfl; have x1 : w9.cell? ⟨wi.heap.size, 1, none⟩ = some (.int .u64 vx.f1) := (blk_cell V9 1).trans rfl; have x2 : w9.cell? ⟨wi.heap.size, 2, none⟩ = some (.int .u64 vx.f2) := (blk_cell V9 2).trans rfl; have x3 : w9.cell? ⟨wi.heap.size, 3, none⟩ = some (.string vx.f3) := (blk_cell V9 3).trans rfl; have x4 : w9.cell? ⟨wi.heap.size, 4, none⟩ = some (.string vx.f4) := (blk_cell V9 4).trans rfl; have L9 := (hb.block _ (blk_lt L8.out)).trans L8.out; have y0 : w9.cell? ⟨w6.heap.size, 0, none⟩ = some (.int .u64 st.f0) := (blk_cell L9 0).trans rfl; have y1 : w9.cell? ⟨w6.heap.size, 1, none⟩ = some (.int .u64 st.f1) := (blk_cell L9 1).trans rfl; have y2 : w9.cell? ⟨w6.heap.size, 2, none⟩ = some (.int .u64 st.f2) := (blk_cell L9 2).trans rfl; have y3 : w9.cell? ⟨w6.heap.size, 3, none⟩ = some (.string st.f3) := (blk_cell L9 3).trans rfl; have y4 : w9.cell? ⟨w6.heap.size, 4, none⟩ = some (.string st.f4) := (blk_cell L9 4).trans rfl; have g0 := blk_frozen L9 0; have g1 := blk_frozen L9 1; have g2 := blk_frozen L9 2; have g3 := blk_frozen L9 3; have g4 := blk_frozen L9 4; replace L9 := Aside0.mk L9; clear hb V9))
              go_roundg k1
              case measure => have := HK.out; omega
              case rel => exact ⟨wrap64 (x42 + 1), true, st, rfl, rfl, ⟨by rw [← HNx.out, ← HQ.out]; exact (stepL_more hH hS).symm⟩, HSt, ⟨W1.out.1⟩, ⟨W1.out.2⟩, ⟨by have := HK.out; omega⟩, L9, ⟨HKp.out.then_below B9.out⟩, ⟨chain HB.out B9.out⟩⟩
            | true =>
              rw [hS] at HLess
              go_wp2_with (first | (go_at_call 70; refine (impl_TermsHold.calls A0 c0 l0 vx.f0 vx.f1 vx.f2 vx.f3 vx.f4 false true (wi.alloc (.cells #[.int .u64 vx.f0, .int .u64 vx.f1, .int .u64 vx.f2, .string vx.f3, .string vx.f4] 27)) (Kd.C_below HR0.out (chain HB.out (below_new _ _))) HC0.out (HG.out.below (chain HB.out (below_new _ _))) HX.out).mono ?_; rintro e w8 ⟨rfl, hb⟩; have B8 : Aside0 (Below wi.heap.size wi w8) := Aside0.mk (chain (below_new _ _) hb); have V8 : w8.heap[wi.heap.size]? = some (.cells #[.int .u64 vx.f0, .int .u64 vx.f1, .int .u64 vx.f2, .string vx.f3, .string vx.f4] 27 (0, 0)) := (hb.block _ (blk_lt (heap_alloc_new wi _))).trans (heap_alloc_new wi _); have x0 : w8.cell? ⟨wi.heap.size, 0, none⟩ = some (.int .u64 vx.f0) := (blk_cell V8 0).trans rfl; have x1 : w8.cell? ⟨wi.heap.size, 1, none⟩ = some (.int .u64 vx.f1) := (blk_cell V8 1).trans rfl; have x2 : w8.cell? ⟨wi.heap.size, 2, none⟩ = some (.int .u64 vx.f2) := (blk_cell V8 2).trans rfl; have x3 : w8.cell? ⟨wi.heap.size, 3, none⟩ = some (.string vx.f3) := (blk_cell V8 3).trans rfl; have x4 : w8.cell? ⟨wi.heap.size, 4, none⟩ = some (.string vx.f4) := (blk_cell V8 4).trans rfl; have L8 : w8.heap[w6.heap.size]? = some (.cells #[.int .u64 st.f0, .int .u64 st.f1, .int .u64 st.f2, .string st.f3, .string st.f4] 27 (0, 0)) := (B8.out.block _ (blk_lt HLs.out)).trans HLs.out; have y0 : w8.cell? ⟨w6.heap.size, 0, none⟩ = some (.int .u64 st.f0) := (blk_cell L8 0).trans rfl; have y1 : w8.cell? ⟨w6.heap.size, 1, none⟩ = some (.int .u64 st.f1) := (blk_cell L8 1).trans rfl; have y2 : w8.cell? ⟨w6.heap.size, 2, none⟩ = some (.int .u64 st.f2) := (blk_cell L8 2).trans rfl; have y3 : w8.cell? ⟨w6.heap.size, 3, none⟩ = some (.string st.f3) := (blk_cell L8 3).trans rfl; have y4 : w8.cell? ⟨w6.heap.size, 4, none⟩ = some (.string st.f4) := (blk_cell L8 4).trans rfl; have g0 := blk_frozen L8 0; have g1 := blk_frozen L8 1; have g2 := blk_frozen L8 2; have g3 := blk_frozen L8 3; have g4 := blk_frozen L8 4; replace V8 := Aside0.mk V8; replace L8 := Aside0.mk L8; clear hb) | (go_at_call 38; refine (impl_VersionLess.calls _ _ _ _ _ _ _ _ _ _ _ w8 (HG.out.below (chain HB.out B8.out)) HLess.out).mono ?_; rintro e w9 ⟨rfl, hb⟩; clear x0 x1 x2 x3 x4 y0 y1 y2 y3 y4 g0 g1 g2 g3 g4; have B9 : Aside0 (Below wi.heap.size wi w9) := Aside0.mk (chain B8.out hb); have V9 := (hb.block _ (blk_lt V8.out)).trans V8.out; have x0 : w9.cell? ⟨wi.heap.size, 0, none⟩ = some (.int .u64 vx.f0) := (blk_cell V9 0).trans rfl; have x1 : w9.cell? ⟨wi.heap.size, 1, none⟩ = some (.int .u64 vx.f1) := (blk_cell V9 1).trans rfl; have x2 : w9.cell? ⟨wi.heap.size, 2, none⟩ = some (.int .u64 vx.f2) := (blk_cell V9 2).trans rfl; have x3 : w9.cell? ⟨wi.heap.size, 3, none⟩ = some (.string vx.f3) := (blk_cell V9 3).trans rfl; have x4 : w9.cell? ⟨wi.heap.size, 4, none⟩ = some (.string vx.f4) := (blk_cell V9 4).trans rfl; have L9 := (hb.block _ (blk_lt L8.out)).trans L8.out; have y0 : w9.cell? ⟨w6.heap.size, 0, none⟩ = some (.int .u64 st.f0) := (blk_cell L9 0).trans rfl; have y1 : w9.cell? ⟨w6.heap.size, 1, none⟩ = some (.int .u64 st.f1) := (blk_cell L9 1).trans rfl; have y2 : w9.cell? ⟨w6.heap.size, 2, none⟩ = some (.int .u64 st.f2) := (blk_cell L9 2).trans rfl; have y3 : w9.cell? ⟨w6.heap.size, 3, none⟩ = some (.string st.f3) := (blk_cell L9 3).trans rfl; have y4 : w9.cell? ⟨w6.heap.size, 4, none⟩ = some (.string st.f4) := (blk_cell L9 4).trans rfl; have g0 := blk_frozen L9 0; have g1 := blk_frozen L9 1; have g2 := blk_frozen L9 2; have g3 := blk_frozen L9 3; have g4 := blk_frozen L9 4; replace L9 := Aside0.mk L9; clear hb V9))
              go_roundg k1
              case measure => have := HK.out; omega
              case rel => exact ⟨wrap64 (x42 + 1), true, vx, rfl, rfl, ⟨by rw [← HNx.out, ← HQ.out]; exact (stepL_less hH hS).symm⟩, HXE, ⟨W1.out.1⟩, ⟨W1.out.2⟩, ⟨by have := HK.out; omega⟩, ⟨put5_blk _ _ _ _ _ L9.out⟩, ⟨(HKp.out.then_below B9.out).trans (Keeps.put5 _ _ _ _ _ _ _) (.inl rfl)⟩, ⟨put5_below _ _ _ _ _ (chain HB.out B9.out) HG5.out⟩⟩
      · have c2b0 : decide (x42 < (pl.length : Int)) = false := decide_eq_false c2
        have ex : pl.take x42.toNat = pl := List.take_of_length_le (by have := HX0.out; omega)
        rw [ex, ← HLL.out] at HQ
        clear c2
        have VN := (HKp.out.2 _ (blk_lt V7.out) (fun e => by have h1 := blk_lt V6.out; have h2 := Option.some.inj e; omega)).trans V7.out
        have z0 : wi.cell? ⟨w.heap.size, 0, none⟩ = some (.int .u64 a) := (blk_cell VN 0).trans rfl
        have z1 : wi.cell? ⟨w.heap.size, 1, none⟩ = some (.int .u64 b) := (blk_cell VN 1).trans rfl
        have z2 : wi.cell? ⟨w.heap.size, 2, none⟩ = some (.int .u64 c) := (blk_cell VN 2).trans rfl
        have z3 : wi.cell? ⟨w.heap.size, 3, none⟩ = some (.string ⟨#[]⟩) := (blk_cell VN 3).trans rfl
        have z4 : wi.cell? ⟨w.heap.size, 4, none⟩ = some (.string ⟨#[]⟩) := (blk_cell VN 4).trans rfl
        have LN := HLs.out
        have y0 : wi.cell? ⟨w6.heap.size, 0, none⟩ = some (.int .u64 st.f0) := (blk_cell LN 0).trans rfl
        have y1 : wi.cell? ⟨w6.heap.size, 1, none⟩ = some (.int .u64 st.f1) := (blk_cell LN 1).trans rfl
        have y2 : wi.cell? ⟨w6.heap.size, 2, none⟩ = some (.int .u64 st.f2) := (blk_cell LN 2).trans rfl
        have y3 : wi.cell? ⟨w6.heap.size, 3, none⟩ = some (.string st.f3) := (blk_cell LN 3).trans rfl
        have y4 : wi.cell? ⟨w6.heap.size, 4, none⟩ = some (.string st.f4) := (blk_cell LN 4).trans rfl
        cases q with
        | false =>
          go_wp2
          go_ret
          exact ⟨by rw [← HQ.out]; rfl, HB.out⟩
        | true =>
          go_wp2_with (go_at_call 51; refine (impl_VersionLessEqual.calls _ _ _ _ _ _ _ _ _ _ _ wi (HG.out.below HB.out) (le_f st a b c HSt.out)).mono ?_; rintro e w9 ⟨rfl, hb⟩; have B9 := Aside0.mk (chain HB.out hb); clear hb)
          go_ret
          exact ⟨by rw [← HQ.out]; rfl, B9.out⟩
end Go.Proofs.YtgenbmhmcnaiiaaDoor.H

/- The walk of laws.FnSemverLeastOne where the terms are not good, or the release does not satisfy them. -/
namespace Go.Proofs.YtgenbmhmcnaiiaaDoor.H
open Go.RowKit Go.Proofs.YtgenbmhmcnaiiaaDoor.PG Go.Proofs.YtgenbmhmcnaiiaaDoorW.PrintLast Go.Proofs.YtgenbmhmcnaiiaaDoorW.PrintMore
open Go.Proofs.YtgenbmhmcnaiiaaDoorW.PrintWords hiding Ev Ev.bind
set_option linter.unusedVariables false
set_option linter.unusedSimpArgs false

def P67 (l0 : List (List S54)) (w : World) (v : Value) : Prop := ∃ g, v = .slice (some ⟨g, 0, none⟩) 1 1 ∧ Kd.C (Kd.slice 69 (Kd.slice 54 k54)) w (some ⟨g, 0, none⟩) 1 [l0]
theorem P67.below {l0 : List (List S54)} {w w' : World} {v : Value} (h : P67 l0 w v) (hb : Below w.heap.size w w') : P67 l0 w' v := by
  obtain ⟨g, e, h⟩ := h
  exact ⟨g, e, Kd.C_below h hb⟩
def siAllL : List (List S54) := [[⟨4, 3, 0, 0, 0, ⟨#[48]⟩⟩]]
def PS (w : World) (v : Value) : Prop := ∃ A c, v = .slice A siAllL.length c ∧ siAllL.length ≤ c ∧ Kd.C (Kd.slice 54 k54) w A siAllL.length siAllL
theorem PS.below {w w' : World} {v : Value} (h : PS w v) (hb : Below w.heap.size w w') : PS w' v := by
  obtain ⟨A, c, e, hc, h⟩ := h
  exact ⟨A, c, e, hc, Kd.C_below h hb⟩
theorem siAll_calls' (w : World) : Calls Tryd.prog 72 #[] w fun e w' => (∃ v, e = .returned v ∧ PS w' v) ∧ Below w.heap.size w w' := by
  refine (laws_siAll.calls siAllL w rfl).mono ?_
  rintro e w' ⟨v, rfl, hN, hb⟩
  obtain ⟨A, c, rfl, hc, hC⟩ := Kd.N_reads hN
  exact ⟨⟨_, rfl, A, c, rfl, hc, hC⟩, hb⟩
theorem siGood_calls' (k : Nat) (l0 : List (List S54)) (r : Bool) (w : World) (v : Value) (h : P67 l0 w v) (hg : laws_siGood.f k [l0] = some r) : Calls Tryd.prog 71 #[v] w fun e w' => e = .returned (.bool r) ∧ Below w.heap.size w w' := by
  obtain ⟨g, rfl, hC⟩ := h
  exact laws_siGood.calls k (some ⟨g, 0, none⟩) 1 [l0] r w hC (Nat.le_refl 1) hg
theorem siAll_holds (v : Value) (a b c : Int) (r : Bool) (w : World) (hG : GE w) (hv : PS w v) (h : impl_TermsHold.f siAllL a b c ⟨#[]⟩ ⟨#[]⟩ false = some r) :
    Calls Tryd.prog 70 #[v, .agg #[.int .u64 a, .int .u64 b, .int .u64 c, .string ⟨#[]⟩, .string ⟨#[]⟩], .bool false] w fun e w' => e = .returned (.bool r) ∧ Below w.heap.size w w' := by
  obtain ⟨A, n, rfl, hc, hC⟩ := hv
  exact impl_TermsHold.calls A n siAllL a b c ⟨#[]⟩ ⟨#[]⟩ false r w hC hc hG h

set_option maxRecDepth 100000 in
set_option maxHeartbeats 8000000 in
theorem least_bad (k : Nat) (A0 : Option Addr) (c0 : Nat) (l0 : List (List S54)) (a b c : Int) (p m : ByteArray) (w : World) (hr0 : Kd.C (Kd.slice 54 k54) w A0 l0.length l0) (hc0 : l0.length ≤ c0) (hG : GE w) (h11 : laws_zzFits11.f k l0 = some true) (h14 : laws_zzFits14.f a b c p m = some true) (hsi : laws_siGood.f k [l0] = some false) :
    Calls Tryd.prog 19 #[.slice A0 l0.length c0, .agg #[.int .u64 a, .int .u64 b, .int .u64 c, .string p, .string m]] w fun e w' => e = .returned (.bool true) ∧ Below w.heap.size w w' := by
  have hu27 := Tryd.underlying27
  have hu43 := Tryd.underlying43
  have HR0 := Aside0.mk hr0
  have HC0 := Aside0.mk hc0
  have hV0 := Aside0.mk (heap_alloc_new w (.cells #[.int .u64 a, .int .u64 b, .int .u64 c, .string p, .string m] 27))
  clear hr0 hc0
  have H11 := Aside0.mk h11
  have H14 := Aside0.mk h14
  have HSI := Aside0.mk hsi
  have HG := Aside0.mk hG
  clear h11 h14 hsi hG
  go_enter Tryd.func19, Tryd.ntmps19
  go_wp2_with (first | (go_at_call 68; refine (laws_zzFits11.calls k _ _ _ _ _ (Kd.C_below HR0.out (below_new _ _)) HC0.out H11.out).mono ?_; rintro e w1 ⟨rfl, hb⟩; have B1 : Aside0 (Below w.heap.size w w1) := Aside0.mk (chain (below_new _ _) hb); have V1 := (hb.block _ (blk_lt hV0.out)).trans hV0.out; have z0 : w1.cell? ⟨w.heap.size, 0, none⟩ = some (.int .u64 a) := (blk_cell V1 0).trans rfl; have z1 : w1.cell? ⟨w.heap.size, 1, none⟩ = some (.int .u64 b) := (blk_cell V1 1).trans rfl; have z2 : w1.cell? ⟨w.heap.size, 2, none⟩ = some (.int .u64 c) := (blk_cell V1 2).trans rfl; have z3 : w1.cell? ⟨w.heap.size, 3, none⟩ = some (.string p) := (blk_cell V1 3).trans rfl; have z4 : w1.cell? ⟨w.heap.size, 4, none⟩ = some (.string m) := (blk_cell V1 4).trans rfl; replace V1 := Aside0.mk V1; clear hb) | (go_at_call 24; refine (laws_zzFits14.calls _ _ _ _ _ _ _ H14.out).mono ?_; rintro e w2 ⟨rfl, hb⟩; have B2 : Aside0 (Below w.heap.size w w2) := Aside0.mk (chain B1.out hb); clear z0 z1 z2 z3 z4; have V2 := (hb.block _ (blk_lt V1.out)).trans V1.out; have z0 : w2.cell? ⟨w.heap.size, 0, none⟩ = some (.int .u64 a) := (blk_cell V2 0).trans rfl; have z1 : w2.cell? ⟨w.heap.size, 1, none⟩ = some (.int .u64 b) := (blk_cell V2 1).trans rfl; have z2 : w2.cell? ⟨w.heap.size, 2, none⟩ = some (.int .u64 c) := (blk_cell V2 2).trans rfl; have z3 : w2.cell? ⟨w.heap.size, 3, none⟩ = some (.string p) := (blk_cell V2 3).trans rfl; have z4 : w2.cell? ⟨w.heap.size, 4, none⟩ = some (.string m) := (blk_cell V2 4).trans rfl; replace V2 := Aside0.mk V2; clear hb) | (go_at_call 41; refine (spec_Bare.calls _ _ _ _ _ _ _ _ _ _ _ rfl).mono ?_; rintro e w3 ⟨rfl, hb⟩; have B3 : Aside0 (Below w.heap.size w w3) := Aside0.mk (chain B2.out hb); clear z0 z1 z2 z3 z4; have V3 := (hb.block _ (blk_lt V2.out)).trans V2.out; have z0 : w3.cell? ⟨w.heap.size, 0, none⟩ = some (.int .u64 a) := (blk_cell V3 0).trans rfl; have z1 : w3.cell? ⟨w.heap.size, 1, none⟩ = some (.int .u64 b) := (blk_cell V3 1).trans rfl; have z2 : w3.cell? ⟨w.heap.size, 2, none⟩ = some (.int .u64 c) := (blk_cell V3 2).trans rfl; have z3 : w3.cell? ⟨w.heap.size, 3, none⟩ = some (.string p) := (blk_cell V3 3).trans rfl; have z4 : w3.cell? ⟨w.heap.size, 4, none⟩ = some (.string m) := (blk_cell V3 4).trans rfl; have f0 := blk_frozen V3 0; have f1 := blk_frozen V3 1; have f2 := blk_frozen V3 2; have f3 := blk_frozen V3 3; have f4 := blk_frozen V3 4; have D4 : Aside0 (Below w.heap.size w (put5 w3 w.heap.size (.int .u64 a) (.int .u64 b) (.int .u64 c) (.string ⟨#[]⟩) (.string ⟨#[]⟩))) := Aside0.mk (put5_below _ _ _ _ _ B3.out (Nat.le_refl _)); have V4 := Aside0.mk (put5_blk (.int .u64 a) (.int .u64 b) (.int .u64 c) (.string (⟨#[]⟩ : ByteArray)) (.string (⟨#[]⟩ : ByteArray)) V3); have S4 : Aside0 ((put5 w3 w.heap.size (.int .u64 a) (.int .u64 b) (.int .u64 c) (.string ⟨#[]⟩) (.string ⟨#[]⟩)).heap.size = w3.heap.size) := Aside0.mk (by simp [put5]); replace V3 := Aside0.mk V3; clear hb) | (go_at_call 71; clear z0 z1 z2 z3 z4; refine (laws_siGood.calls k (some ⟨w3.heap.size, 0, none⟩) 1 [l0] false ((put5 w3 w.heap.size (.int .u64 a) (.int .u64 b) (.int .u64 c) (.string ⟨#[]⟩) (.string ⟨#[]⟩)).alloc (.cells #[.slice A0 l0.length c0] 67)) (C_one67 (put5 w3 w.heap.size (.int .u64 a) (.int .u64 b) (.int .u64 c) (.string ⟨#[]⟩) (.string ⟨#[]⟩)) _ S4.out (Kd.C_below HR0.out D4.out) HC0.out) (Nat.le_refl 1) HSI.out).mono ?_; rintro e w5 ⟨rfl, hb⟩; have B5 : Aside0 (Below w.heap.size w w5) := Aside0.mk (chain (chain D4.out (below_new _ _)) hb); have V5 := (hb.block _ (Nat.lt_of_lt_of_le (blk_lt V4.out) (below_new _ _).size)).trans (((below_new (put5 w3 w.heap.size (.int .u64 a) (.int .u64 b) (.int .u64 c) (.string ⟨#[]⟩) (.string ⟨#[]⟩)) (.cells #[.slice A0 l0.length c0] 67)).block _ (blk_lt V4.out)).trans V4.out); have z0 : w5.cell? ⟨w.heap.size, 0, none⟩ = some (.int .u64 a) := (blk_cell V5 0).trans rfl; have z1 : w5.cell? ⟨w.heap.size, 1, none⟩ = some (.int .u64 b) := (blk_cell V5 1).trans rfl; have z2 : w5.cell? ⟨w.heap.size, 2, none⟩ = some (.int .u64 c) := (blk_cell V5 2).trans rfl; have z3 : w5.cell? ⟨w.heap.size, 3, none⟩ = some (.string ⟨#[]⟩) := (blk_cell V5 3).trans rfl; have z4 : w5.cell? ⟨w.heap.size, 4, none⟩ = some (.string ⟨#[]⟩) := (blk_cell V5 4).trans rfl; replace V5 := Aside0.mk V5; clear hb f0 f1 f2 f3 f4))
  clear z0 z1 z2 z3 z4
  refine region_row (id := 5) mixed (by kernel_rfl) (fun i wv v => match i with
      | 0 => v = .slice A0 l0.length c0
      | 1 => P67 l0 wv v
      | 2 => v = .bool false
      | 3 => v = .bool true
      | 4 => v = .bool true
      | 5 => True
      | 6 => True
      | 7 => True
      | 8 => v = .bool true
      | 9 => v = .bool true
      | _ => True) Gr (Gr.refl _) Gr.trans ?_ ?_ ?_
  · intro i v w1 w2 h hr
    match i, h with
    | 1, h => exact P67.below h hr
    | 0, h | 2, h | 3, h | 4, h | 5, h | 6, h | 7, h | 8, h | 9, h | _ + 10, h => exact h
  · refine ⟨?_, ?_, ?_, ?_, ?_, ?_, ?_, ?_, ?_, ?_, trivial⟩
    · intro x wx hR hd hs
      have e0 := ev_of (hs 0 (by kernel_rfl) : x.eval (.tmp 0) = .slice A0 l0.length c0)
      clear hd hs
      refine wpOp_plain rfl rfl ?_
      go_simp
      exact ⟨_, rfl, rfl, Gr.refl _⟩
    · intro x wx hR hd hs
      have e29 := ev_of (hd 0 _ 29 rfl rfl (by kernel_rfl) : x.eval (.tmp 29) = .slice A0 l0.length c0)
      have hcx := Kd.C_below HR0.out (chain B5.out (drew_chain hR))
      clear hd hs
      refine wpOp_plain rfl rfl ?_
      go_simp
      exact ⟨_, rfl, ⟨_, rfl, C_one67 wx _ rfl hcx HC0.out⟩, below_new _ _⟩
    · intro x wx hR hd hs
      obtain ⟨u30, hu30, hp30⟩ : ∃ u, x.eval (.tmp 30) = u ∧ P67 l0 wx u := ⟨_, rfl, hd 1 _ 30 rfl rfl (by kernel_rfl)⟩
      have e30 := ev_of hu30
      clear hd hs
      refine wpOp_plain rfl rfl ?_
      go_simp
      refine (siGood_calls' k l0 false _ _ hp30 HSI.out).mono ?_
      rintro e w1 ⟨rfl, hb⟩
      exact ⟨_, rfl, rfl, hb⟩
    · intro x wx hR hd hs
      have e31 := ev_of (hd 2 _ 31 rfl rfl (by kernel_rfl) : x.eval (.tmp 31) = .bool false)
      clear hd hs
      refine wpOp_plain rfl rfl ?_
      go_simp
      exact ⟨_, rfl, rfl, Gr.refl _⟩
    · intro x wx hR hd hs
      have e32 := ev_of (hd 3 _ 32 rfl rfl (by kernel_rfl) : x.eval (.tmp 32) = .bool true)
      clear hd hs
      refine wpOp_plain rfl rfl ?_
      go_simp
      exact ⟨_, rfl, rfl, Gr.refl _⟩
    · intro x wx hR hd hs
      have ey : x.eval (.tmp 33) = .bool true := hd 4 _ 33 rfl rfl (by kernel_rfl)
      clear hd hs
      refine wpOp_guarded rfl rfl (yielded_of rfl rfl ey) (fun hc => absurd hc (by decide)) (fun _ => ⟨_, rfl, trivial, Gr.refl _⟩)
    · intro x wx hR hd hs
      have e3 := ev_of (hs 3 (by kernel_rfl) : x.eval (.tmp 3) = .pointer (some ⟨w.heap.size, 0, none⟩))
      have ey : x.eval (.tmp 33) = .bool true := hd 4 _ 33 rfl rfl (by kernel_rfl)
      clear hd hs
      refine wpOp_guarded rfl rfl (yielded_of rfl rfl ey) (fun hc => absurd hc (by decide)) (fun _ => ⟨_, rfl, trivial, Gr.refl _⟩)
    · intro x wx hR hd hs
      obtain ⟨u34, hu34⟩ : ∃ u, x.eval (.tmp 34) = u := ⟨_, rfl⟩
      have e34 := ev_of hu34
      obtain ⟨u35, hu35⟩ : ∃ u, x.eval (.tmp 35) = u := ⟨_, rfl⟩
      have e35 := ev_of hu35
      have ey : x.eval (.tmp 33) = .bool true := hd 4 _ 33 rfl rfl (by kernel_rfl)
      clear hd hs
      refine wpOp_guarded rfl rfl (yielded_of rfl rfl ey) (fun hc => absurd hc (by decide)) (fun _ => ⟨_, rfl, trivial, Gr.refl _⟩)
    · intro x wx hR hd hs
      have e33 := ev_of (hd 4 _ 33 rfl rfl (by kernel_rfl) : x.eval (.tmp 33) = .bool true)
      obtain ⟨u36, hu36⟩ : ∃ u, x.eval (.tmp 36) = u := ⟨_, rfl⟩
      have e36 := ev_of hu36
      clear hd hs
      refine wpOp_plain rfl rfl ?_
      go_simp
      exact ⟨_, rfl, rfl, Gr.refl _⟩
    · intro x wx hR hd hs
      have e37 := ev_of (hd 8 _ 37 rfl rfl (by kernel_rfl) : x.eval (.tmp 37) = .bool true)
      clear hd hs
      refine wpOp_plain rfl rfl ?_
      go_simp
      exact ⟨_, rfl, rfl, Gr.refl _⟩
  · intro vs wq hl hRr hv
    obtain ⟨v0, v1, v2, v3, v4, v5, v6, v7, v8, v9, rfl⟩ := list_10 hl
    obtain rfl : .slice A0 l0.length c0 = v0 := (hv 0 v0 rfl).symm
    have hv1 : P67 l0 wq v1 := hv 1 v1 rfl
    obtain rfl : .bool false = v2 := (hv 2 v2 rfl).symm
    obtain rfl : .bool true = v3 := (hv 3 v3 rfl).symm
    obtain rfl : .bool true = v4 := (hv 4 v4 rfl).symm
    obtain rfl : .bool true = v8 := (hv 8 v8 rfl).symm
    obtain rfl : .bool true = v9 := (hv 9 v9 rfl).symm
    clear hv hl
    simp only [List.map_cons, List.map_nil, putAll, Act.put, List.setIfInBounds_toArray, List.set_cons_zero, List.set_cons_succ]
    go_wp2
    go_ret
    exact ⟨rfl, chain B5.out (drew_chain hRr)⟩

set_option maxRecDepth 100000 in
set_option maxHeartbeats 8000000 in
theorem least_none (k : Nat) (A0 : Option Addr) (c0 : Nat) (l0 : List (List S54)) (a b c : Int) (p m : ByteArray) (w : World) (hr0 : Kd.C (Kd.slice 54 k54) w A0 l0.length l0) (hc0 : l0.length ≤ c0) (hG : GE w) (h11 : laws_zzFits11.f k l0 = some true) (h14 : laws_zzFits14.f a b c p m = some true) (hsi : laws_siGood.f k [l0] = some true) (hth : impl_TermsHold.f l0 a b c ⟨#[]⟩ ⟨#[]⟩ false = some false) (T : Bool) (hT : impl_TermsHold.f siAllL a b c ⟨#[]⟩ ⟨#[]⟩ false = some T) :
    Calls Tryd.prog 19 #[.slice A0 l0.length c0, .agg #[.int .u64 a, .int .u64 b, .int .u64 c, .string p, .string m]] w fun e w' => e = .returned (.bool T) ∧ Below w.heap.size w w' := by
  have hu27 := Tryd.underlying27
  have hu43 := Tryd.underlying43
  have HR0 := Aside0.mk hr0
  have HC0 := Aside0.mk hc0
  have hV0 := Aside0.mk (heap_alloc_new w (.cells #[.int .u64 a, .int .u64 b, .int .u64 c, .string p, .string m] 27))
  clear hr0 hc0
  have H11 := Aside0.mk h11
  have H14 := Aside0.mk h14
  have HSI := Aside0.mk hsi
  have HG := Aside0.mk hG
  have HTH := Aside0.mk hth
  have HTA := Aside0.mk hT
  clear hth hT
  clear h11 h14 hsi hG
  go_enter Tryd.func19, Tryd.ntmps19
  go_wp2_with (first | (go_at_call 68; refine (laws_zzFits11.calls k _ _ _ _ _ (Kd.C_below HR0.out (below_new _ _)) HC0.out H11.out).mono ?_; rintro e w1 ⟨rfl, hb⟩; have B1 : Aside0 (Below w.heap.size w w1) := Aside0.mk (chain (below_new _ _) hb); have V1 := (hb.block _ (blk_lt hV0.out)).trans hV0.out; have z0 : w1.cell? ⟨w.heap.size, 0, none⟩ = some (.int .u64 a) := (blk_cell V1 0).trans rfl; have z1 : w1.cell? ⟨w.heap.size, 1, none⟩ = some (.int .u64 b) := (blk_cell V1 1).trans rfl; have z2 : w1.cell? ⟨w.heap.size, 2, none⟩ = some (.int .u64 c) := (blk_cell V1 2).trans rfl; have z3 : w1.cell? ⟨w.heap.size, 3, none⟩ = some (.string p) := (blk_cell V1 3).trans rfl; have z4 : w1.cell? ⟨w.heap.size, 4, none⟩ = some (.string m) := (blk_cell V1 4).trans rfl; replace V1 := Aside0.mk V1; clear hb) | (go_at_call 24; refine (laws_zzFits14.calls _ _ _ _ _ _ _ H14.out).mono ?_; rintro e w2 ⟨rfl, hb⟩; have B2 : Aside0 (Below w.heap.size w w2) := Aside0.mk (chain B1.out hb); clear z0 z1 z2 z3 z4; have V2 := (hb.block _ (blk_lt V1.out)).trans V1.out; have z0 : w2.cell? ⟨w.heap.size, 0, none⟩ = some (.int .u64 a) := (blk_cell V2 0).trans rfl; have z1 : w2.cell? ⟨w.heap.size, 1, none⟩ = some (.int .u64 b) := (blk_cell V2 1).trans rfl; have z2 : w2.cell? ⟨w.heap.size, 2, none⟩ = some (.int .u64 c) := (blk_cell V2 2).trans rfl; have z3 : w2.cell? ⟨w.heap.size, 3, none⟩ = some (.string p) := (blk_cell V2 3).trans rfl; have z4 : w2.cell? ⟨w.heap.size, 4, none⟩ = some (.string m) := (blk_cell V2 4).trans rfl; replace V2 := Aside0.mk V2; clear hb) | (go_at_call 41; refine (spec_Bare.calls _ _ _ _ _ _ _ _ _ _ _ rfl).mono ?_; rintro e w3 ⟨rfl, hb⟩; have B3 : Aside0 (Below w.heap.size w w3) := Aside0.mk (chain B2.out hb); clear z0 z1 z2 z3 z4; have V3 := (hb.block _ (blk_lt V2.out)).trans V2.out; have z0 : w3.cell? ⟨w.heap.size, 0, none⟩ = some (.int .u64 a) := (blk_cell V3 0).trans rfl; have z1 : w3.cell? ⟨w.heap.size, 1, none⟩ = some (.int .u64 b) := (blk_cell V3 1).trans rfl; have z2 : w3.cell? ⟨w.heap.size, 2, none⟩ = some (.int .u64 c) := (blk_cell V3 2).trans rfl; have z3 : w3.cell? ⟨w.heap.size, 3, none⟩ = some (.string p) := (blk_cell V3 3).trans rfl; have z4 : w3.cell? ⟨w.heap.size, 4, none⟩ = some (.string m) := (blk_cell V3 4).trans rfl; have f0 := blk_frozen V3 0; have f1 := blk_frozen V3 1; have f2 := blk_frozen V3 2; have f3 := blk_frozen V3 3; have f4 := blk_frozen V3 4; have D4 : Aside0 (Below w.heap.size w (put5 w3 w.heap.size (.int .u64 a) (.int .u64 b) (.int .u64 c) (.string ⟨#[]⟩) (.string ⟨#[]⟩))) := Aside0.mk (put5_below _ _ _ _ _ B3.out (Nat.le_refl _)); have V4 := Aside0.mk (put5_blk (.int .u64 a) (.int .u64 b) (.int .u64 c) (.string (⟨#[]⟩ : ByteArray)) (.string (⟨#[]⟩ : ByteArray)) V3); have S4 : Aside0 ((put5 w3 w.heap.size (.int .u64 a) (.int .u64 b) (.int .u64 c) (.string ⟨#[]⟩) (.string ⟨#[]⟩)).heap.size = w3.heap.size) := Aside0.mk (by simp [put5]); replace V3 := Aside0.mk V3; clear hb) | (go_at_call 71; clear z0 z1 z2 z3 z4; refine (laws_siGood.calls k (some ⟨w3.heap.size, 0, none⟩) 1 [l0] true ((put5 w3 w.heap.size (.int .u64 a) (.int .u64 b) (.int .u64 c) (.string ⟨#[]⟩) (.string ⟨#[]⟩)).alloc (.cells #[.slice A0 l0.length c0] 67)) (C_one67 (put5 w3 w.heap.size (.int .u64 a) (.int .u64 b) (.int .u64 c) (.string ⟨#[]⟩) (.string ⟨#[]⟩)) _ S4.out (Kd.C_below HR0.out D4.out) HC0.out) (Nat.le_refl 1) HSI.out).mono ?_; rintro e w5 ⟨rfl, hb⟩; have B5 : Aside0 (Below w.heap.size w w5) := Aside0.mk (chain (chain D4.out (below_new _ _)) hb); have V5 := (hb.block _ (Nat.lt_of_lt_of_le (blk_lt V4.out) (below_new _ _).size)).trans (((below_new (put5 w3 w.heap.size (.int .u64 a) (.int .u64 b) (.int .u64 c) (.string ⟨#[]⟩) (.string ⟨#[]⟩)) (.cells #[.slice A0 l0.length c0] 67)).block _ (blk_lt V4.out)).trans V4.out); have z0 : w5.cell? ⟨w.heap.size, 0, none⟩ = some (.int .u64 a) := (blk_cell V5 0).trans rfl; have z1 : w5.cell? ⟨w.heap.size, 1, none⟩ = some (.int .u64 b) := (blk_cell V5 1).trans rfl; have z2 : w5.cell? ⟨w.heap.size, 2, none⟩ = some (.int .u64 c) := (blk_cell V5 2).trans rfl; have z3 : w5.cell? ⟨w.heap.size, 3, none⟩ = some (.string ⟨#[]⟩) := (blk_cell V5 3).trans rfl; have z4 : w5.cell? ⟨w.heap.size, 4, none⟩ = some (.string ⟨#[]⟩) := (blk_cell V5 4).trans rfl; replace V5 := Aside0.mk V5; clear hb f0 f1 f2 f3 f4) | (go_at_call 70; refine (impl_TermsHold.calls A0 c0 l0 a b c ⟨#[]⟩ ⟨#[]⟩ false false w5 (Kd.C_below HR0.out B5.out) HC0.out (HG.out.below B5.out) HTH.out).mono ?_; rintro e w6 ⟨rfl, hb⟩; clear z0 z1 z2 z3 z4; have B6 : Aside0 (Below w.heap.size w w6) := Aside0.mk (chain B5.out hb); have V6 := (hb.block _ (blk_lt V5.out)).trans V5.out; have z0 : w6.cell? ⟨w.heap.size, 0, none⟩ = some (.int .u64 a) := (blk_cell V6 0).trans rfl; have z1 : w6.cell? ⟨w.heap.size, 1, none⟩ = some (.int .u64 b) := (blk_cell V6 1).trans rfl; have z2 : w6.cell? ⟨w.heap.size, 2, none⟩ = some (.int .u64 c) := (blk_cell V6 2).trans rfl; have z3 : w6.cell? ⟨w.heap.size, 3, none⟩ = some (.string ⟨#[]⟩) := (blk_cell V6 3).trans rfl; have z4 : w6.cell? ⟨w.heap.size, 4, none⟩ = some (.string ⟨#[]⟩) := (blk_cell V6 4).trans rfl; replace V6 := Aside0.mk V6; clear hb))
  clear z0 z1 z2 z3 z4
  refine region_row (id := 5) mixed (by kernel_rfl) (fun i wv v => match i with
      | 0 => v = .slice A0 l0.length c0
      | 1 => P67 l0 wv v
      | 2 => v = .bool true
      | 3 => v = .bool false
      | 4 => v = .bool false
      | 5 => PS wv v
      | 6 => v = .agg #[.int .u64 a, .int .u64 b, .int .u64 c, .string ⟨#[]⟩, .string ⟨#[]⟩]
      | 7 => v = .bool T
      | 8 => v = .bool T
      | 9 => v = .bool T
      | _ => True) Gr (Gr.refl _) Gr.trans ?_ ?_ ?_
  · intro i v w1 w2 h hr
    match i, h with
    | 1, h => exact P67.below h hr
    | 5, h => exact PS.below h hr
    | 0, h | 2, h | 3, h | 4, h | 6, h | 7, h | 8, h | 9, h | _ + 10, h => exact h
  · refine ⟨?_, ?_, ?_, ?_, ?_, ?_, ?_, ?_, ?_, ?_, trivial⟩
    · intro x wx hR hd hs
      have e0 := ev_of (hs 0 (by kernel_rfl) : x.eval (.tmp 0) = .slice A0 l0.length c0)
      clear hd hs
      refine wpOp_plain rfl rfl ?_
      go_simp
      exact ⟨_, rfl, rfl, Gr.refl _⟩
    · intro x wx hR hd hs
      have e29 := ev_of (hd 0 _ 29 rfl rfl (by kernel_rfl) : x.eval (.tmp 29) = .slice A0 l0.length c0)
      have hcx := Kd.C_below HR0.out (chain B6.out (drew_chain hR))
      clear hd hs
      refine wpOp_plain rfl rfl ?_
      go_simp
      exact ⟨_, rfl, ⟨_, rfl, C_one67 wx _ rfl hcx HC0.out⟩, below_new _ _⟩
    · intro x wx hR hd hs
      obtain ⟨u30, hu30, hp30⟩ : ∃ u, x.eval (.tmp 30) = u ∧ P67 l0 wx u := ⟨_, rfl, hd 1 _ 30 rfl rfl (by kernel_rfl)⟩
      have e30 := ev_of hu30
      clear hd hs
      refine wpOp_plain rfl rfl ?_
      go_simp
      refine (siGood_calls' k l0 true _ _ hp30 HSI.out).mono ?_
      rintro e w1 ⟨rfl, hb⟩
      exact ⟨_, rfl, rfl, hb⟩
    · intro x wx hR hd hs
      have e31 := ev_of (hd 2 _ 31 rfl rfl (by kernel_rfl) : x.eval (.tmp 31) = .bool true)
      clear hd hs
      refine wpOp_plain rfl rfl ?_
      go_simp
      exact ⟨_, rfl, rfl, Gr.refl _⟩
    · intro x wx hR hd hs
      have e32 := ev_of (hd 3 _ 32 rfl rfl (by kernel_rfl) : x.eval (.tmp 32) = .bool false)
      clear hd hs
      refine wpOp_plain rfl rfl ?_
      go_simp
      exact ⟨_, rfl, rfl, Gr.refl _⟩
    · intro x wx hR hd hs
      have ey : x.eval (.tmp 33) = .bool false := hd 4 _ 33 rfl rfl (by kernel_rfl)
      clear hd hs
      refine wpOp_guarded rfl rfl (yielded_of rfl rfl ey) (fun _ => ?_) (fun hc => absurd rfl hc)
      go_simp
      refine (siAll_calls' _).mono ?_
      rintro e w1 ⟨⟨v, rfl, hv⟩, hb⟩
      exact ⟨_, rfl, hv, hb⟩
    · intro x wx hR hd hs
      have e3 := ev_of (hs 3 (by kernel_rfl) : x.eval (.tmp 3) = .pointer (some ⟨w.heap.size, 0, none⟩))
      have ey : x.eval (.tmp 33) = .bool false := hd 4 _ 33 rfl rfl (by kernel_rfl)
      have hbx := ((drew_chain hR).block _ (blk_lt V6.out)).trans V6.out
      have z0 : wx.cell? ⟨w.heap.size, 0, none⟩ = some (.int .u64 a) := (blk_cell hbx 0).trans rfl
      have z1 : wx.cell? ⟨w.heap.size, 1, none⟩ = some (.int .u64 b) := (blk_cell hbx 1).trans rfl
      have z2 : wx.cell? ⟨w.heap.size, 2, none⟩ = some (.int .u64 c) := (blk_cell hbx 2).trans rfl
      have z3 : wx.cell? ⟨w.heap.size, 3, none⟩ = some (.string ⟨#[]⟩) := (blk_cell hbx 3).trans rfl
      have z4 : wx.cell? ⟨w.heap.size, 4, none⟩ = some (.string ⟨#[]⟩) := (blk_cell hbx 4).trans rfl
      clear hd hs
      refine wpOp_guarded rfl rfl (yielded_of rfl rfl ey) (fun _ => ?_) (fun hc => absurd rfl hc)
      go_simp
      exact ⟨_, rfl, rfl, Gr.refl _⟩
    · intro x wx hR hd hs
      obtain ⟨u34, hu34, hp34⟩ : ∃ u, x.eval (.tmp 34) = u ∧ PS wx u := ⟨_, rfl, hd 5 _ 34 rfl rfl (by kernel_rfl)⟩
      have e34 := ev_of hu34
      have e35 := ev_of (hd 6 _ 35 rfl rfl (by kernel_rfl) : x.eval (.tmp 35) = .agg #[.int .u64 a, .int .u64 b, .int .u64 c, .string ⟨#[]⟩, .string ⟨#[]⟩])
      have ey : x.eval (.tmp 33) = .bool false := hd 4 _ 33 rfl rfl (by kernel_rfl)
      have HGx := HG.out.below (chain B6.out (drew_chain hR))
      clear hd hs
      refine wpOp_guarded rfl rfl (yielded_of rfl rfl ey) (fun _ => ?_) (fun hc => absurd rfl hc)
      go_simp
      refine (siAll_holds _ a b c T _ HGx hp34 HTA.out).mono ?_
      rintro e w1 ⟨rfl, hb⟩
      exact ⟨_, rfl, rfl, hb⟩
    · intro x wx hR hd hs
      have e33 := ev_of (hd 4 _ 33 rfl rfl (by kernel_rfl) : x.eval (.tmp 33) = .bool false)
      have e36 := ev_of (hd 7 _ 36 rfl rfl (by kernel_rfl) : x.eval (.tmp 36) = .bool T)
      clear hd hs
      refine wpOp_plain rfl rfl ?_
      go_simp
      exact ⟨_, rfl, rfl, Gr.refl _⟩
    · intro x wx hR hd hs
      have e37 := ev_of (hd 8 _ 37 rfl rfl (by kernel_rfl) : x.eval (.tmp 37) = .bool T)
      clear hd hs
      refine wpOp_plain rfl rfl ?_
      go_simp
      exact ⟨_, rfl, rfl, Gr.refl _⟩
  · intro vs wq hl hRr hv
    obtain ⟨v0, v1, v2, v3, v4, v5, v6, v7, v8, v9, rfl⟩ := list_10 hl
    obtain rfl : .slice A0 l0.length c0 = v0 := (hv 0 v0 rfl).symm
    have hv1 : P67 l0 wq v1 := hv 1 v1 rfl
    obtain rfl : .bool true = v2 := (hv 2 v2 rfl).symm
    obtain rfl : .bool false = v3 := (hv 3 v3 rfl).symm
    obtain rfl : .bool false = v4 := (hv 4 v4 rfl).symm
    have hv5 : PS wq v5 := hv 5 v5 rfl
    obtain rfl : .agg #[.int .u64 a, .int .u64 b, .int .u64 c, .string ⟨#[]⟩, .string ⟨#[]⟩] = v6 := (hv 6 v6 rfl).symm
    obtain rfl : .bool T = v7 := (hv 7 v7 rfl).symm
    obtain rfl : .bool T = v8 := (hv 8 v8 rfl).symm
    obtain rfl : .bool T = v9 := (hv 9 v9 rfl).symm
    clear hv hl
    simp only [List.map_cons, List.map_nil, putAll, Act.put, List.setIfInBounds_toArray, List.set_cons_zero, List.set_cons_succ]
    go_wp2
    go_ret
    exact ⟨rfl, chain B6.out (drew_chain hRr)⟩

end Go.Proofs.YtgenbmhmcnaiiaaDoor.H
