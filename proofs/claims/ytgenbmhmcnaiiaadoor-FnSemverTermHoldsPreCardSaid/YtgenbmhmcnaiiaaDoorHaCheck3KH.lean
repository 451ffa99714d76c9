/- What the code says of a good term is what the specification says. -/
import Derived.Test.YtgenbmhmcnaiiaaDoorHaTermSKH
import Derived.Test.YtgenbmhmcnaiiaaDoorT3CheckKH
namespace Go.Proofs.YtgenbmhmcnaiiaaDoor.H
open Go.RowKit Go.Proofs.YtgenbmhmcnaiiaaDoor.PG
open Go.Proofs.YtgenbmhmcnaiiaaDoorW.PrintWords hiding Ev Ev.bind
set_option linter.unusedVariables false
set_option linter.unusedSimpArgs false

theorem opOf_small {o : Int} (h0 : 0 ≤ o) (h8 : o < 8) : opOf o = o := by
  have h : o = 0 ∨ o = 1 ∨ o = 2 ∨ o = 3 ∨ o = 4 ∨ o = 5 ∨ o = 6 ∨ o = 7 := by omega
  rcases h with rfl | rfl | rfl | rfl | rfl | rfl | rfl | rfl <;> decide
theorem opText_known (b : Int) : OpKnown (opText b) := by
  unfold opText OpKnown
  repeat' split
  all_goals simp

/-- What the code says for an operator by its number. -/
def opHolds (o : Int) (d md pd pre : Bool) (a b c : Int) (p : ByteArray) (a' b' c' : Int) (p' : ByteArray) : Bool :=
  if o = 0 then eqHolds d md pd pre a b p a' b' c' (verCmp a b c p a' b' c' p')
  else if o = 1 then neHolds d md pd pre a b c p a' b' c' p' (verCmp a b c p a' b' c' p') (preCmp p p')
  else if o = 2 then gtHolds d md pd pre a b p a' b' (verCmp a b c p a' b' c' p')
  else if o = 3 then ltHolds pre p (verCmp a b c p a' b' c' p')
  else if o = 4 then geHolds pre p (verCmp a b c p a' b' c' p')
  else if o = 5 then leHolds d md pre a b p a' b' (verCmp a b c p a' b' c' p')
  else if o = 6 then tildeHolds md pd pre a b p a' b' c' (verCmp a b c p a' b' c' p')
  else caretHolds md pd pre a b c p a' b' c' (verCmp a b c p a' b' c' p')
theorem checkHolds_op {o : Int} (h0 : 0 ≤ o) (h8 : o < 8) (d md pd pre : Bool) (a b c : Int) (p : ByteArray) (a' b' c' : Int) (p' : ByteArray) :
    checkHolds (opText (opOf o)) d md pd pre a b c p a' b' c' p' = opHolds o d md pd pre a b c p a' b' c' p' := by
  rw [opOf_small h0 h8]
  have h : o = 0 ∨ o = 1 ∨ o = 2 ∨ o = 3 ∨ o = 4 ∨ o = 5 ∨ o = 6 ∨ o = 7 := by omega
  unfold checkHolds opHolds
  rcases h with rfl | rfl | rfl | rfl | rfl | rfl | rfl | rfl
  · have e : opText 0 = ⟨#[61]⟩ := rfl
    rw [e, if_pos rfl, if_pos rfl]
  · have e : opText 1 = ⟨#[33, 61]⟩ := rfl
    rw [e, if_neg (by decide), if_pos rfl, if_neg (by decide), if_pos rfl]
  · have e : opText 2 = ⟨#[62]⟩ := rfl
    rw [e, if_neg (by decide), if_neg (by decide), if_pos rfl, if_neg (by decide), if_neg (by decide), if_pos rfl]
  · have e : opText 3 = ⟨#[60]⟩ := rfl
    rw [e, if_neg (by decide), if_neg (by decide), if_neg (by decide), if_pos rfl, if_neg (by decide), if_neg (by decide), if_neg (by decide), if_pos rfl]
  · have e : opText 4 = ⟨#[62, 61]⟩ := rfl
    rw [e, if_neg (by decide), if_neg (by decide), if_neg (by decide), if_neg (by decide), if_pos rfl, if_neg (by decide), if_neg (by decide), if_neg (by decide), if_neg (by decide), if_pos rfl]
  · have e : opText 5 = ⟨#[60, 61]⟩ := rfl
    rw [e, if_neg (by decide), if_neg (by decide), if_neg (by decide), if_neg (by decide), if_neg (by decide), if_pos rfl, if_neg (by decide), if_neg (by decide), if_neg (by decide), if_neg (by decide), if_neg (by decide), if_pos rfl]
  · have e : opText 6 = ⟨#[126]⟩ := rfl
    rw [e, if_neg (by decide), if_neg (by decide), if_neg (by decide), if_neg (by decide), if_neg (by decide), if_neg (by decide), if_pos rfl, if_neg (by decide), if_neg (by decide), if_neg (by decide), if_neg (by decide), if_neg (by decide), if_neg (by decide), if_pos rfl]
  · have e : opText 7 = ⟨#[94]⟩ := rfl
    rw [e, if_neg (by decide), if_neg (by decide), if_neg (by decide), if_neg (by decide), if_neg (by decide), if_neg (by decide), if_neg (by decide), if_neg (by decide), if_neg (by decide), if_neg (by decide), if_neg (by decide), if_neg (by decide), if_neg (by decide), if_neg (by decide)]

/-- What a term of these numbers says, the comparison r by clause 11 given. -/
def saysN (o n a b c a' b' c' r : Int) : Bool :=
  let x := if a < a' then -1 else if a' < a then 1 else 0
  let y := if b < b' then -1 else if b' < b then 1 else 0
  let z := if c < c' then -1 else if c' < c then (1 : Int) else 0
  let nt := fun k : Int => if k = 0 then 0 else if k = 1 then x else if k = 2 then (if x = 0 then y else x) else if x = 0 then (if y = 0 then z else y) else x
  let u := if n = 3 then r else nt n
  if o = 0 then (if u = 0 then (if n = 3 then true else decide (r ≥ 0)) else false)
  else if o = 1 then u != 0 else if o = 2 then decide (u > 0) else if o = 3 then decide (r < 0) else if o = 4 then decide (r ≥ 0) else if o = 5 then decide (u ≤ 0)
  else if o = 6 then (if r ≥ 0 then nt (if n < 2 then n else 2) == 0 else false)
  else (if r ≥ 0 then nt (caretNum n a' b' c') == 0 else false)
theorem numTail_nt {k x y z : Int} (h0 : 0 ≤ k) (h3 : k ≤ 3) : numTail x y z k 0 = if k = 0 then 0 else if k = 1 then x else if k = 2 then (if x = 0 then y else x) else if x = 0 then (if y = 0 then z else y) else x := by
  have h : k = 0 ∨ k = 1 ∨ k = 2 ∨ k = 3 := by omega
  rcases h with rfl | rfl | rfl | rfl
  · rw [numTail0]; rfl
  · rw [numTail1]; rfl
  · rw [numTail2]; rfl
  · rw [numTail3]; rfl
theorem mn_two (n : Int) : mn 2 n = if n < 2 then n else 2 := by unfold mn; grind
theorem compares_saysN {o n a b c : Int} {p : ByteArray} {a' b' c' : Int} {p' : ByteArray} (h0 : 0 ≤ n) (h3 : n ≤ 3) :
    compares o n a b c p a' b' c' p' = saysN o n a b c a' b' c' (specVer a b c p.data.toList a' b' c' p'.data.toList) := by
  have hc : 0 ≤ caretNum n a' b' c' ∧ caretNum n a' b' c' ≤ 3 := by unfold caretNum; grind
  unfold compares saysN upper
  rw [mn_two, numTail_nt h0 h3, numTail_nt hc.1 hc.2, numTail_nt (k := if n < 2 then n else 2) (by split <;> omega) (by split <;> omega)]
  rfl

theorem op_law (o n a b c : Int) (p : ByteArray) (a' b' c' : Int) (p' : ByteArray) (pre : Bool) (hg : goodTerm o n a' b' c' p' = true) (hv : okPre p.data.toList) (ra : 0 ≤ a) (rb : 0 ≤ b) (ra' : 0 ≤ a') (rb' : 0 ≤ b') (hs : o = 1 → n = 3) :
    opHolds o (decide (0 ≤ n) && decide (n < 3)) (n == 1) (n == 2) pre a b c p a' b' c' p' = snWant o n a b c p a' b' c' p' pre := by
  obtain ⟨o0, o8, n0, n3, hk, h3, h2, h1, hz, ht⟩ := goodTerm_iff hg
  unfold snWant
  rw [compares_saysN n0 n3]
  unfold opHolds
  rw [ver_spec hv hk]
  have hr := specVer_sgn a b c p.data.toList a' b' c' p'.data.toList
  generalize specVer a b c p.data.toList a' b' c' p'.data.toList = r at *
  unfold eqHolds neHolds gtHolds ltHolds geHolds leHolds tildeHolds caretHolds
  rw [toList_eq]
  generalize p.data.toList = l at *
  have hgate : (if l.isEmpty = false ∧ pre = false then True else False) ↔ (pre || (l == [])) = false := by
    cases l <;> cases pre <;> simp
  have ho : o = 0 ∨ o = 1 ∨ o = 2 ∨ o = 3 ∨ o = 4 ∨ o = 5 ∨ o = 6 ∨ o = 7 := by omega
  have hn : n = 0 ∨ n = 1 ∨ n = 2 ∨ n = 3 := by omega
  cases hq : (pre || (l == [])) with
  | false =>
    have hq' : l.isEmpty = false ∧ pre = false := by
      cases l <;> cases pre <;> simp_all
    simp only [if_pos hq', Bool.false_and]
    rcases ho with rfl | rfl | rfl | rfl | rfl | rfl | rfl | rfl <;> rfl
  | true =>
    have hq' : ¬ (l.isEmpty = false ∧ pre = false) := by
      cases l <;> cases pre <;> simp_all
    simp only [if_neg hq', Bool.true_and]
    clear hq hq' hgate hg hv hk
    unfold saysN gtTail tildeTail caretTail caretNum sgn at *
    rcases ho with rfl | rfl | rfl | rfl | rfl | rfl | rfl | rfl
    · rcases hn with rfl | rfl | rfl | rfl <;> grind
    · obtain rfl := hs rfl
      grind
    · rcases hn with rfl | rfl | rfl | rfl <;> grind
    · rcases hn with rfl | rfl | rfl | rfl <;> grind
    · rcases hn with rfl | rfl | rfl | rfl <;> grind
    · rcases hn with rfl | rfl | rfl | rfl <;> grind
    · rcases hn with rfl | rfl | rfl | rfl <;> grind
    · by_cases za : a' = 0
      · by_cases zb : b' = 0
        · by_cases zc : c' = 0
          · subst za zb zc
            by_cases xa : a = 0 <;> by_cases xb : b = 0 <;> by_cases xc : 0 = c <;> rcases hn with rfl | rfl | rfl | rfl <;> grind
          · subst za zb
            rw [if_neg (by simp), if_neg (by simp), if_pos zc]
            by_cases xa : a = 0 <;> by_cases xb : b = 0 <;> by_cases xc : c' = c <;> rcases hn with rfl | rfl | rfl | rfl <;> grind
        · subst za
          rw [if_neg (by simp), if_pos zb]
          by_cases xa : a = 0 <;> by_cases xb : b = b' <;> rcases hn with rfl | rfl | rfl | rfl <;> grind
      · rw [if_pos za]
        by_cases xa : a = a' <;> rcases hn with rfl | rfl | rfl | rfl <;> grind
end Go.Proofs.YtgenbmhmcnaiiaaDoor.H
