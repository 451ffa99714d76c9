/- Good lists of terms: what the guards of the laws over constraints let in. -/
import Derived.Test.YtgenbmhmcnaiiaaDoorHaTermSKE
import Derived.Test.YtgenbmhmcnaiiaaDoorPGAKE
namespace Go.Proofs.YtgenbmhmcnaiiaaDoor.H
open Go.RowKit Go.Proofs.YtgenbmhmcnaiiaaDoor.PG
open Go.Proofs.YtgenbmhmcnaiiaaDoorW.PrintWords hiding Ev Ev.bind
set_option linter.unusedVariables false
set_option linter.unusedSimpArgs false
set_option linter.unnecessarySimpa false

/-- A loop over a list that has an element that misses p: what comes behind the list does not count. -/
theorem all_loop_f {α : Type} {xs : List α} {L : Nat → Int → Option Bool} {p : α → Bool} (hf : xs.all p = false)
    (hstep : ∀ i (h : i < xs.length), (p xs[i] = true → ∀ v, Ev (fun k => L k ((i + 1 : Nat) : Int)) v → Ev (fun k => L k (i : Int)) v) ∧ (p xs[i] = false → Ev (fun k => L k (i : Int)) false)) :
    Ev (fun k => L k 0) false := by
  have main : ∀ n i, xs.length - i = n → i ≤ xs.length → (xs.drop i).all p = false → Ev (fun k => L k (i : Int)) false := by
    intro n
    induction n with
    | zero =>
      intro i hn hi h
      have : i = xs.length := by omega
      subst this
      rw [List.drop_length] at h
      cases h
    | succ n ih =>
      intro i hn hi h
      have hlt : i < xs.length := by omega
      rw [List.drop_eq_getElem_cons hlt, List.all_cons] at h
      cases hp : p xs[i] with
      | true =>
        rw [hp, Bool.true_and] at h
        exact (hstep i hlt).1 hp _ (ih (i + 1) (by omega) (by omega) h)
      | false => exact (hstep i hlt).2 hp
  exact main xs.length 0 (by omega) (by omega) (by simpa using hf)
theorem rd54 {X : List S54} {i : Nat} (h : i < X.length) : rd_T54 X (i : Int) = X[i] := by
  simp [rd_T54, List.getD_eq_getElem?_getD, h]
theorem rdL9 {X : List (List S54)} {i : Nat} (h : i < X.length) : rd_L9 X (i : Int) = X[i] := by
  simp [rd_L9, List.getD_eq_getElem?_getD, h]
def fitsL (l : List S54) : Bool := decide (l.length ≤ 2147483647) && l.all (fun t => decide (t.f5.size ≤ 2147483647))
def fitsC (c : List (List S54)) : Bool := decide (c.length ≤ 2147483647) && c.all fitsL
theorem fits12_ev (l : List S54) : Ev (fun k => laws_zzFits12.f k l) (fitsL l) := by
  unfold laws_zzFits12.f fitsL
  by_cases h : l.length ≤ 2147483647
  · rw [decide_eq_true h, Bool.true_and]
    refine Ev.neg (by omega) ?_
    have key : Ev (fun k => laws_zzFits12.l0 k l l.length 0) (l.all (fun t => decide (t.f5.size ≤ 2147483647)) && true) := by
      refine all_loop (L := fun k i => laws_zzFits12.l0 k l l.length i) ?_ ?_
      · refine Ev.succ ?_
        simp only [laws_zzFits12.l0]
        exact Ev.neg (by omega) (Ev.val _)
      · intro i hi
        constructor
        · intro hp v hv
          refine Ev.succ ?_
          simp only [laws_zzFits12.l0]
          refine Ev.pos (by omega) (Ev.pos (by omega) (Ev.pos (by omega) ?_))
          rw [rd54 hi, wrap1 hi (by omega)]
          simp only [decide_eq_true_eq] at hp
          unfold laws_zzFits13.f
          rw [if_neg (by omega)]
          simpa using hv
        · intro hp
          refine Ev.succ ?_
          simp only [laws_zzFits12.l0]
          refine Ev.pos (by omega) (Ev.pos (by omega) (Ev.pos (by omega) ?_))
          rw [rd54 hi]
          simp only [decide_eq_false_iff_not] at hp
          unfold laws_zzFits13.f
          rw [if_pos (by omega)]
          exact Ev.val _
    simpa using key
  · rw [decide_eq_false h, Bool.false_and]
    exact Ev.pos (by omega) (Ev.val _)
theorem fits11_ev (c : List (List S54)) : Ev (fun k => laws_zzFits11.f k c) (fitsC c) := by
  unfold laws_zzFits11.f fitsC
  by_cases h : c.length ≤ 2147483647
  · rw [decide_eq_true h, Bool.true_and]
    refine Ev.neg (by omega) ?_
    have key : Ev (fun k => laws_zzFits11.l0 k c c.length 0) (c.all fitsL && true) := by
      refine all_loop (L := fun k i => laws_zzFits11.l0 k c c.length i) ?_ ?_
      · refine Ev.succ ?_
        simp only [laws_zzFits11.l0]
        exact Ev.neg (by omega) (Ev.val _)
      · intro i hi
        have hf := fits12_ev c[i]
        constructor
        · intro hp v hv
          rw [hp] at hf
          refine Ev.succ ?_
          simp only [laws_zzFits11.l0]
          refine Ev.pos (by omega) (Ev.pos (by omega) (Ev.pos (by omega) ?_))
          rw [rdL9 hi, wrap1 hi (by omega)]
          exact Ev.bind hf (Ev.pos (by simp) hv)
        · intro hp
          rw [hp] at hf
          refine Ev.succ ?_
          simp only [laws_zzFits11.l0]
          refine Ev.pos (by omega) (Ev.pos (by omega) (Ev.pos (by omega) ?_))
          rw [rdL9 hi]
          exact Ev.bind hf (Ev.neg (by simp) (Ev.val _))
    simpa using key
  · rw [decide_eq_false h, Bool.false_and]
    exact Ev.pos (by omega) (Ev.val _)
theorem fitsC_len {c : List (List S54)} (h : fitsC c = true) : c.length ≤ 2147483647 := by
  simp only [fitsC, Bool.and_eq_true, decide_eq_true_eq] at h
  exact h.1
theorem fitsC_mem {c : List (List S54)} (h : fitsC c = true) {l : List S54} (hl : l ∈ c) : l.length ≤ 2147483647 ∧ ∀ t ∈ l, t.f5.size ≤ 2147483647 := by
  simp only [fitsC, Bool.and_eq_true] at h
  have := List.all_eq_true.1 h.2 l hl
  simp only [fitsL, Bool.and_eq_true, decide_eq_true_eq, List.all_eq_true] at this
  exact this

def goodT (t : S54) : Bool := goodTerm t.f0 t.f1 t.f2 t.f3 t.f4 t.f5
/-- Good terms, at most so many over all, of which n have been counted. -/
def goodC (most : Int) : Int → List (List S54) → Bool
  | n, [] => decide (n > 0)
  | n, l :: c => l.all goodT && (!l.isEmpty && (decide (n + l.length ≤ most) && goodC most (n + l.length) c))
theorem goodTerms_ev (most : Int) (hm : 0 ≤ most ∧ most ≤ 1000) (c : List (List S54)) (hc : fitsC c = true) : Ev (fun k => spec_GoodTerms.f k c most) (goodC most 0 c) := by
  unfold spec_GoodTerms.f
  have hcl := fitsC_len hc
  have main : ∀ (m : Nat) (i : Nat) (n : Int), c.length - i = m → i ≤ c.length → 0 ≤ n → n ≤ most → Ev (fun k => spec_GoodTerms.l0 k most n c c.length (i : Int)) (goodC most n (c.drop i)) := by
    intro m
    induction m with
    | zero =>
      intro i n hi hle h0 h1
      have : i = c.length := by omega
      subst this
      refine Ev.succ ?_
      simp only [spec_GoodTerms.l0]
      rw [List.drop_length]
      exact Ev.neg (by omega) (Ev.val _)
    | succ m ih =>
      intro i n hi hle h0 h1
      have hlt : i < c.length := by omega
      have hd := List.drop_eq_getElem_cons hlt
      obtain ⟨hll, hls⟩ := fitsC_mem hc (List.getElem_mem hlt)
      rw [hd]
      simp only [goodC]
      refine Ev.succ ?_
      simp only [spec_GoodTerms.l0]
      refine Ev.pos (by omega) (Ev.pos (by omega) (Ev.pos (by omega) ?_))
      rw [rdL9 hlt]
      generalize c[i] = l at *
      refine all_loop (L := fun k j => spec_GoodTerms.l1 k most n l c c.length (i : Int) l l.length j) ?_ ?_
      · refine Ev.succ ?_
        simp only [spec_GoodTerms.l1]
        refine Ev.neg (by omega) ?_
        cases l with
        | nil => exact Ev.pos (by simp) (Ev.val _)
        | cons x l' =>
          rw [List.isEmpty_cons, Bool.not_false, Bool.true_and]
          have hw : wrap64 (n + ((x :: l').length : Int)) = n + ((x :: l').length : Int) := by unfold wrap64; omega
          rw [hw, wrap1 hlt (by omega)]
          refine Ev.neg (by simp; omega) ?_
          by_cases hk : n + ((x :: l').length : Int) ≤ most
          · rw [decide_eq_true hk, Bool.true_and]
            exact Ev.neg (by omega) (ih (i + 1) _ (by omega) (by omega) (by omega) hk)
          · rw [decide_eq_false hk, Bool.false_and]
            exact Ev.pos (by omega) (Ev.val _)
      · intro j hj
        have hg := goodTerm_ev l[j].f0 l[j].f1 l[j].f2 l[j].f3 l[j].f4 l[j].f5 (by have := hls l[j] (List.getElem_mem hj); omega)
        constructor
        · intro hp v hv
          have hp' : goodTerm l[j].f0 l[j].f1 l[j].f2 l[j].f3 l[j].f4 l[j].f5 = true := hp
          rw [hp'] at hg
          refine Ev.succ ?_
          simp only [spec_GoodTerms.l1]
          refine Ev.pos (by omega) (Ev.pos (by omega) (Ev.pos (by omega) ?_))
          rw [rd54 hj, wrap1 hj (by omega)]
          exact Ev.bind hg (Ev.pos (by simp) hv)
        · intro hp
          have hp' : goodTerm l[j].f0 l[j].f1 l[j].f2 l[j].f3 l[j].f4 l[j].f5 = false := hp
          rw [hp'] at hg
          refine Ev.succ ?_
          simp only [spec_GoodTerms.l1]
          refine Ev.pos (by omega) (Ev.pos (by omega) (Ev.pos (by omega) ?_))
          rw [rd54 hj]
          exact Ev.bind hg (Ev.neg (by simp) (Ev.val _))
  exact main _ 0 0 rfl (by omega) (by omega) (by omega)
def scSmall (c : List (List S54)) : Bool := c.all (fun l => l.all (fun t => decide (t.f5.size ≤ 64)))
def scGood (c : List (List S54)) : Bool := goodC 24 0 c && scSmall c
theorem scGood_ev (c : List (List S54)) (hc : fitsC c = true) : Ev (fun k => laws_scGood.f k c) (scGood c) := by
  unfold laws_scGood.f scGood
  have hcl := fitsC_len hc
  refine Ev.bind (goodTerms_ev 24 (by omega) c hc) (Ev.ite (fun e => ?_) (fun e => (Ev.val _).eq (by rw [Bool.eq_false_iff.2 e]; rfl)))
  rw [e, Bool.true_and]
  have key : Ev (fun k => laws_scGood.l0 k c c.length 0) (scSmall c && true) := by
    refine all_loop (L := fun k i => laws_scGood.l0 k c c.length i) ?_ ?_
    · refine Ev.succ ?_
      simp only [laws_scGood.l0]
      exact Ev.neg (by omega) (Ev.val _)
    · intro i hi
      have hll := (fitsC_mem hc (List.getElem_mem hi)).1
      have step : ∀ j (hj : j < c[i].length), (decide (c[i][j].f5.size ≤ 64) = true → ∀ v, Ev (fun k => laws_scGood.l1 k c c.length (i : Int) c[i] c[i].length ((j + 1 : Nat) : Int)) v → Ev (fun k => laws_scGood.l1 k c c.length (i : Int) c[i] c[i].length (j : Int)) v) ∧ (decide (c[i][j].f5.size ≤ 64) = false → Ev (fun k => laws_scGood.l1 k c c.length (i : Int) c[i] c[i].length (j : Int)) false) := by
        intro j hj
        constructor
        · intro hp u hu
          simp only [decide_eq_true_eq] at hp
          refine Ev.succ ?_
          simp only [laws_scGood.l1]
          refine Ev.pos (by omega) (Ev.pos (by omega) (Ev.pos (by omega) ?_))
          rw [rd54 hj, wrap1 hj (by omega)]
          exact Ev.neg (by omega) hu
        · intro hp
          simp only [decide_eq_false_iff_not] at hp
          refine Ev.succ ?_
          simp only [laws_scGood.l1]
          refine Ev.pos (by omega) (Ev.pos (by omega) (Ev.pos (by omega) ?_))
          rw [rd54 hj]
          exact Ev.pos (by omega) (Ev.val _)
      have inner : ∀ v, Ev (fun k => laws_scGood.l0 k c c.length ((i + 1 : Nat) : Int)) v → Ev (fun k => laws_scGood.l1 k c c.length (i : Int) c[i] c[i].length 0) (c[i].all (fun t => decide (t.f5.size ≤ 64)) && v) := by
        intro v hv
        refine all_loop (L := fun k j => laws_scGood.l1 k c c.length (i : Int) c[i] c[i].length j) ?_ step
        · refine Ev.succ ?_
          simp only [laws_scGood.l1]
          refine Ev.neg (by omega) ?_
          rw [wrap1 hi (by omega)]
          exact hv
      constructor
      · intro hp v hv
        refine Ev.succ ?_
        simp only [laws_scGood.l0]
        refine Ev.pos (by omega) (Ev.pos (by omega) (Ev.pos (by omega) ?_))
        rw [rdL9 hi]
        have := inner v hv
        rw [hp, Bool.true_and] at this
        exact this
      · intro hp
        refine Ev.succ ?_
        simp only [laws_scGood.l0]
        refine Ev.pos (by omega) (Ev.pos (by omega) (Ev.pos (by omega) ?_))
        rw [rdL9 hi]
        exact all_loop_f (L := fun k j => laws_scGood.l1 k c c.length (i : Int) c[i] c[i].length j) hp step
  simpa using key
end Go.Proofs.YtgenbmhmcnaiiaaDoor.H
