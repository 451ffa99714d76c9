/- What the printed functions of the specification of terms come to: good terms, and what a term says of a version. -/
import Derived.Test.YtgenbmhmcnaiiaaDoorHaGoodKH
import Derived.Test.YtgenbmhmcnaiiaaDoorPGx20KH
import Derived.Test.YtgenbmhmcnaiiaaDoorPGx25KH
namespace Go.Proofs.YtgenbmhmcnaiiaaDoor.H
open Go.RowKit Go.Proofs.YtgenbmhmcnaiiaaDoor.PG
open Go.Proofs.YtgenbmhmcnaiiaaDoorW.PrintWords hiding Ev Ev.bind
set_option linter.unusedVariables false
set_option linter.unusedSimpArgs false
set_option linter.unnecessarySimpa false

def preOk (l : List UInt8) : Bool := (l == []) || (validPre l && smallPre l)
theorem okPre_preOk {l : List UInt8} (h : preOk l = true) : okPre l := by
  simpa [preOk, okPre] using h

def tm3 (x : Bool) (p : ByteArray) : Bool := !x && preOk p.data.toList
def tm2 (x : Bool) (n a b c : Int) (p : ByteArray) : Bool := !x && tm3 (decide ((n < 3 ∧ (c ≠ 0 ∨ p.toList ≠ [])) ∨ (n < 2 ∧ b ≠ 0) ∨ (n < 1 ∧ a ≠ 0))) p
def tm1 (x : Bool) (o n a b c : Int) (p : ByteArray) : Bool := !x && tm2 (decide (o < 0 ∨ o ≥ 8 ∨ n < 0 ∨ n > 3)) n a b c p
def goodTerm (o n a b c : Int) (p : ByteArray) : Bool := tm1 (decide ((n = 0 ∧ o ≠ 0 ∧ o ≠ 4 ∧ o ≠ 6) ∨ (n = 3 ∧ o = 6 ∧ a = 0 ∧ b = 0 ∧ c = 0))) o n a b c p

theorem term_j3 (x : Bool) (o n a b c : Int) (p : ByteArray) (hp : p.size < 8796093022207) : Ev (fun k => spec_GoodTerm.j3 k x o n a b c p) (tm3 x p) := by
  refine Ev.succ ?_
  simp only [spec_GoodTerm.j3]
  refine Ev.ite (fun e => (Ev.val _).eq (by simp [tm3, e])) (fun e => ?_)
  have ex : x = false := by simpa using e
  subst ex
  rw [toList_eq]
  refine Ev.ite (fun e => (Ev.val _).eq (by simp [tm3, preOk, e])) (fun e => ?_)
  refine Ev.bind (validPre_ev p hp) (Ev.ite (fun e1 => Ev.bind (smallPre_ev p hp) ((Ev.val _).eq ?_)) (fun e1 => (Ev.val _).eq ?_))
  · unfold tm3 preOk
    rw [beq_eq_false_iff_ne.2 e, e1]
    simp
  · unfold tm3 preOk
    rw [beq_eq_false_iff_ne.2 e, Bool.eq_false_iff.2 e1]
    simp
theorem term_j2 (x : Bool) (o n a b c : Int) (p : ByteArray) (hp : p.size < 8796093022207) : Ev (fun k => spec_GoodTerm.j2 k x o n a b c p) (tm2 x n a b c p) := by
  refine Ev.succ ?_
  simp only [spec_GoodTerm.j2]
  refine Ev.ite (fun e => (Ev.val _).eq (by simp [tm2, e])) (fun e => ?_)
  have ex : x = false := by simpa using e
  subst ex
  have key : ∀ y : Bool, y = decide ((n < 3 ∧ (c ≠ 0 ∨ p.toList ≠ [])) ∨ (n < 2 ∧ b ≠ 0) ∨ (n < 1 ∧ a ≠ 0)) → Ev (fun k => spec_GoodTerm.j3 k y o n a b c p) (tm2 false n a b c p) := by
    intro y hy
    refine (term_j3 y o n a b c p hp).eq ?_
    rw [hy]
    simp [tm2]
  clear e
  repeat' refine Ev.ite (fun _ => ?_) (fun _ => ?_)
  all_goals exact key _ (by grind)
theorem term_j1 (x : Bool) (o n a b c : Int) (p : ByteArray) (hp : p.size < 8796093022207) : Ev (fun k => spec_GoodTerm.j1 k x o n a b c p) (tm1 x o n a b c p) := by
  refine Ev.succ ?_
  simp only [spec_GoodTerm.j1]
  refine Ev.ite (fun e => (Ev.val _).eq (by simp [tm1, e])) (fun e => ?_)
  have ex : x = false := by simpa using e
  subst ex
  have key : ∀ y : Bool, y = decide (o < 0 ∨ o ≥ 8 ∨ n < 0 ∨ n > 3) → Ev (fun k => spec_GoodTerm.j2 k y o n a b c p) (tm1 false o n a b c p) := by
    intro y hy
    refine (term_j2 y o n a b c p hp).eq ?_
    rw [hy]
    simp [tm1]
  clear e
  repeat' refine Ev.ite (fun _ => ?_) (fun _ => ?_)
  all_goals exact key _ (by grind)
theorem term_j0 (x : Bool) (o n a b c : Int) (p : ByteArray) (hp : p.size < 8796093022207) (hx : x = decide (a = 0 ∧ b = 0 ∧ c = 0)) : Ev (fun k => spec_GoodTerm.j0 k x o n a b c p) (goodTerm o n a b c p) := by
  refine Ev.succ ?_
  simp only [spec_GoodTerm.j0]
  have key : ∀ y : Bool, y = decide ((n = 0 ∧ o ≠ 0 ∧ o ≠ 4 ∧ o ≠ 6) ∨ (n = 3 ∧ o = 6 ∧ a = 0 ∧ b = 0 ∧ c = 0)) → Ev (fun k => spec_GoodTerm.j1 k y o n a b c p) (goodTerm o n a b c p) := by
    intro y hy
    refine (term_j1 y o n a b c p hp).eq ?_
    rw [hy]
    rfl
  repeat' refine Ev.ite (fun _ => ?_) (fun _ => ?_)
  all_goals exact key _ (by grind)
theorem goodTerm_ev (o n a b c : Int) (p : ByteArray) (hp : p.size < 8796093022207) : Ev (fun k => spec_GoodTerm.f k o n a b c p) (goodTerm o n a b c p) := by
  unfold spec_GoodTerm.f
  repeat' refine Ev.ite (fun _ => ?_) (fun _ => ?_)
  all_goals exact term_j0 _ o n a b c p hp (by grind)

/-- What a good term gives. -/
theorem goodTerm_iff {o n a b c : Int} {p : ByteArray} (h : goodTerm o n a b c p = true) :
    0 ≤ o ∧ o < 8 ∧ 0 ≤ n ∧ n ≤ 3 ∧ okPre p.data.toList ∧ (n < 3 → c = 0 ∧ p.data.toList = []) ∧ (n < 2 → b = 0) ∧ (n < 1 → a = 0) ∧ (n = 0 → o = 0 ∨ o = 4 ∨ o = 6) ∧ (n = 3 → o = 6 → ¬ (a = 0 ∧ b = 0 ∧ c = 0)) := by
  simp only [goodTerm, tm1, tm2, tm3, Bool.and_eq_true, Bool.not_eq_true', decide_eq_false_iff_not, toList_eq] at h
  obtain ⟨h1, h2, h3, h4⟩ := h
  refine ⟨by omega, by omega, by omega, by omega, okPre_preOk h4, fun hn => ?_, fun hn => ?_, fun hn => ?_, fun hn => ?_, fun hn ho => ?_⟩
  all_goals grind

theorem spoken_ev (o n a b c : Int) (p : ByteArray) (a' b' c' : Int) (p' m' : ByteArray) (v : Bool)
    (hv : v = if n = 3 then true else if o = 5 then (if n = 2 then numTail (segCmp a' a) (segCmp b' (IntKind.u64.wrap (b + 1))) (segCmp c' 0) 3 0 != 0 else numTail (segCmp a' (IntKind.u64.wrap (a + 1))) (segCmp b' 0) (segCmp c' 0) 3 0 != 0) else if o = 1 then (p'.data.toList == []) else true) :
    Ev (fun k => spec_Spoken.f k o n a b c p a' b' c' p' m') v := by
  subst hv
  unfold spec_Spoken.f
  refine Ev.ite (fun e => ?_) (fun e => ?_)
  all_goals
    refine Ev.succ ?_
    simp only [spec_Spoken.j0, spec_CompareNumbers.f, Option.bind_some, toList_eq]
    refine Ev.ite (fun e1 => (Ev.val _).eq ?_) (fun e1 => Ev.ite (fun e2 => (Ev.val _).eq ?_) (fun e2 => Ev.ite (fun e3 => (Ev.val _).eq ?_) (fun e3 => (Ev.val _).eq ?_)))
    all_goals first | (exfalso; omega) | simp [*]

/-! ### ranges -/
def sgn (x : Int) : Prop := x = -1 ∨ x = 0 ∨ x = 1
theorem seg_sgn (a b : Int) : sgn (segCmp a b) := by unfold segCmp sgn; grind
theorem specPart_sgn (x y : List UInt8) : sgn (specPart x y) := by unfold specPart sgn; grind
theorem specL_sgn : ∀ (X Y : List (List UInt8)), sgn (specL X Y)
  | [], [] => by simp [specL, sgn]
  | _ :: _, [] => by simp [specL, sgn]
  | [], _ :: _ => by simp [specL, sgn]
  | x :: X, y :: Y => by
    simp only [specL]
    split
    · exact specL_sgn X Y
    · exact specPart_sgn x y
theorem specPre_sgn (p q : List UInt8) : sgn (specPre p q) := by
  unfold specPre
  split
  · simp [sgn]
  split
  · simp [sgn]
  split
  · simp [sgn]
  exact specL_sgn _ _
theorem specVer_sgn (a b c : Int) (p : List UInt8) (a' b' c' : Int) (q : List UInt8) : sgn (specVer a b c p a' b' c' q) := by
  unfold specVer
  split
  · split
    · split
      · exact specPre_sgn _ _
      · exact seg_sgn _ _
    · exact seg_sgn _ _
  · exact seg_sgn _ _
theorem numTail0 (a b c : Int) : numTail a b c 0 0 = 0 := by simp only [numTail, nt0, nt1, nt2]; grind
theorem numTail1 (a b c : Int) : numTail a b c 1 0 = a := by simp only [numTail, nt0, nt1, nt2]; grind
theorem numTail2 (a b c : Int) : numTail a b c 2 0 = if a = 0 then b else a := by simp only [numTail, nt0, nt1, nt2]; grind

/-- What a term says of a version by the specification: the numbers that are given are 'n'. -/
def upper (n a b c : Int) (p : ByteArray) (a' b' c' : Int) (p' : ByteArray) : Int :=
  if n = 3 then specVer a b c p.data.toList a' b' c' p'.data.toList else numTail (segCmp a a') (segCmp b b') (segCmp c c') n 0
def caretNum (n a' b' c' : Int) : Int := if a' ≠ 0 then 1 else if b' ≠ 0 then 2 else if c' ≠ 0 then 3 else n
def compares (o n a b c : Int) (p : ByteArray) (a' b' c' : Int) (p' : ByteArray) : Bool :=
  let u := upper n a b c p a' b' c' p'
  let r := specVer a b c p.data.toList a' b' c' p'.data.toList
  if o = 0 then (if u = 0 then (if n = 3 then true else decide (r ≥ 0)) else false)
  else if o = 1 then u != 0 else if o = 2 then decide (u > 0) else if o = 3 then decide (r < 0) else if o = 4 then decide (r ≥ 0) else if o = 5 then decide (u ≤ 0)
  else if o = 6 then (if r ≥ 0 then numTail (segCmp a a') (segCmp b b') (segCmp c c') (mn 2 n) 0 == 0 else false)
  else (if r ≥ 0 then numTail (segCmp a a') (segCmp b b') (segCmp c c') (caretNum n a' b' c') 0 == 0 else false)

theorem caretNum_ev (o n a b c : Int) (p : ByteArray) : Ev (fun k => spec_caretNumbers.f k o n a b c p) (caretNum n a b c) := by
  unfold spec_caretNumbers.f
  simp only [Option.bind_some, List.length_cons, List.length_nil]
  have e0 : rd [a, b, c] 0 = a := by simp [rd]
  have e1 : rd [a, b, c] 1 = b := by simp [rd]
  have e2 : rd [a, b, c] 2 = c := by simp [rd]
  have w0 : wrap64 (0 + 1) = 1 := by unfold wrap64; omega
  have w1 : wrap64 (1 + 1) = 2 := by unfold wrap64; omega
  have w2 : wrap64 (2 + 1) = 3 := by unfold wrap64; omega
  unfold caretNum
  refine Ev.succ ?_
  simp only [spec_caretNumbers.l0, List.length_cons, List.length_nil, e0, w0]
  refine Ev.pos (by decide) (Ev.pos (by decide) (Ev.pos (by decide) (Ev.ite (fun h0 => ?_) (fun h0 => (Ev.val _).eq (by rw [if_pos h0])))))
  refine Ev.succ ?_
  simp only [spec_caretNumbers.l0, List.length_cons, List.length_nil, e1, w1]
  refine Ev.pos (by decide) (Ev.pos (by decide) (Ev.pos (by decide) (Ev.ite (fun h1 => ?_) (fun h1 => (Ev.val _).eq (by simp [h0, h1])))))
  refine Ev.succ ?_
  simp only [spec_caretNumbers.l0, List.length_cons, List.length_nil, e2, w2]
  refine Ev.pos (by decide) (Ev.pos (by decide) (Ev.pos (by decide) (Ev.ite (fun h2 => ?_) (fun h2 => (Ev.val _).eq (by simp [h0, h1, h2])))))
  refine Ev.succ ?_
  simp only [spec_caretNumbers.l0]
  exact Ev.neg (by decide) ((Ev.val _).eq (by simp [h0, h1, h2]))

theorem compares_ev (o n a' b' c' : Int) (p' : ByteArray) (a b c : Int) (p m : ByteArray) (hp : p.size < 8796093022207) (hp' : p'.size < 8796093022207) :
    Ev (fun k => spec_Compares.f k o n a' b' c' p' a b c p m) (compares o n a b c p a' b' c' p') := by
  unfold spec_Compares.f
  simp only [spec_Least.f, spec_CompareNumbers.f, Option.bind_some]
  have cmp := compare_ev a b c a' b' c' p m p' (⟨#[]⟩ : ByteArray) hp hp'
  have main : ∀ u, u = upper n a b c p a' b' c' p' → Ev (fun k => spec_Compares.j0 k u o n a' b' c' p' a b c p m a' b' c' p' (⟨#[]⟩ : ByteArray)) (compares o n a b c p a' b' c' p') := by
    intro u hu
    refine Ev.succ ?_
    simp only [spec_Compares.j0, spec_CompareNumbers.f, spec_tildeNumbers.f, Option.bind_some]
    unfold compares
    simp only [← hu]
    refine Ev.ite (fun o0 => ?_) (fun o0 => ?_)
    · rw [if_pos o0]
      refine Ev.ite (fun h => ?_) (fun h => (Ev.val _).eq (by rw [if_neg h]))
      rw [if_pos h]
      exact Ev.ite (fun h => (Ev.val _).eq (by rw [if_pos h])) (fun h => Ev.bind cmp ((Ev.val _).eq (by rw [if_neg h])))
    rw [if_neg o0]
    refine Ev.ite (fun o1 => (Ev.val _).eq (by rw [if_pos o1])) (fun o1 => ?_)
    rw [if_neg o1]
    refine Ev.ite (fun o2 => (Ev.val _).eq (by rw [if_pos o2])) (fun o2 => ?_)
    rw [if_neg o2]
    refine Ev.ite (fun o3 => Ev.bind cmp ((Ev.val _).eq (by rw [if_pos o3]))) (fun o3 => ?_)
    rw [if_neg o3]
    refine Ev.ite (fun o4 => Ev.bind cmp ((Ev.val _).eq (by rw [if_pos o4]))) (fun o4 => ?_)
    rw [if_neg o4]
    refine Ev.ite (fun o5 => (Ev.val _).eq (by rw [if_pos o5])) (fun o5 => ?_)
    rw [if_neg o5]
    refine Ev.ite (fun o6 => Ev.bind cmp (Ev.ite (fun h => (Ev.val _).eq (by rw [if_pos o6, if_pos h])) (fun h => (Ev.val _).eq (by rw [if_pos o6, if_neg h])))) (fun o6 => ?_)
    rw [if_neg o6]
    exact Ev.bind cmp (Ev.ite (fun h => Ev.bind (caretNum_ev _ _ _ _ _ _) ((Ev.val _).eq (by rw [if_pos h]))) (fun h => (Ev.val _).eq (by rw [if_neg h])))
  refine Ev.ite (fun h => Ev.bind cmp (main _ ?_)) (fun h => main _ ?_)
  · unfold upper; rw [if_pos h]
  · unfold upper; rw [if_neg h]

def snWant (o n a b c : Int) (p : ByteArray) (a' b' c' : Int) (p' : ByteArray) (pre : Bool) : Bool := (pre || (p.data.toList == [])) && compares o n a b c p a' b' c' p'

def fits13 (p : ByteArray) : Bool := decide (p.size ≤ 2147483647)
theorem fits13_iff {p : ByteArray} : fits13 p = true ↔ p.size ≤ 2147483647 := by simp [fits13]
theorem fits13_ev (o n a b c : Int) (p : ByteArray) : laws_zzFits13.f o n a b c p = some (fits13 p) := by
  unfold laws_zzFits13.f fits13
  by_cases h : p.size ≤ 2147483647
  · rw [if_neg (by omega), decide_eq_true h]
  · rw [if_pos (by omega), decide_eq_false h]
end Go.Proofs.YtgenbmhmcnaiiaaDoor.H
