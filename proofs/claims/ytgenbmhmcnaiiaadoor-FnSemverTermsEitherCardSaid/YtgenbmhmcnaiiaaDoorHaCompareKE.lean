/- The specification's comparison, as a plain function; of valid parts it is what the code computes. -/
import Derived.Test.YtgenbmhmcnaiiaaDoorOrdKE
import Derived.Test.YtgenbmhmcnaiiaaDoorHaNumKE
import Derived.Test.YtgenbmhmcnaiiaaDoorPGx12KE
import Derived.Test.YtgenbmhmcnaiiaaDoorPGx13KE
namespace Go.Proofs.YtgenbmhmcnaiiaaDoor.H
open Go.RowKit Go.Proofs.YtgenbmhmcnaiiaaDoor.PG
open Go.Proofs.YtgenbmhmcnaiiaaDoorW.PrintWords hiding Ev Ev.bind
set_option linter.unusedVariables false
set_option linter.unusedSimpArgs false
set_option linter.unnecessarySimpa false

theorem specPart_zero {x y : List UInt8} : specPart x y = 0 ↔ x = y := by
  unfold specPart
  by_cases h : x = y
  · simp [h]
  · rw [if_neg h]
    simp only [h, iff_false]
    split
    · split <;> decide
    · split
      · split <;> decide
      · split <;> decide

/-- Prereleases, part by part. -/
def specL : List (List UInt8) → List (List UInt8) → Int
  | [], [] => 0
  | _ :: _, [] => 1
  | [], _ :: _ => -1
  | x :: xs, y :: ys => if specPart x y = 0 then specL xs ys else specPart x y
/-- Prereleases by clause 11. -/
def specPre (p q : List UInt8) : Int := if p = q then 0 else if p = [] then 1 else if q = [] then -1 else specL (parts 46 p) (parts 46 q)

/-- Versions by clause 11. -/
def specVer (a b c : Int) (p : List UInt8) (a' b' c' : Int) (q : List UInt8) : Int :=
  if segCmp a a' = 0 then (if segCmp b b' = 0 then (if segCmp c c' = 0 then specPre p q else segCmp c c') else segCmp b b') else segCmp a a'

/-! ### the code's comparison is the same -/
theorem validPre_mem {l p : List UInt8} (h : validPre l = true) (hp : p ∈ parts 46 l) : preIdent p = true := List.all_eq_true.1 h p hp
theorem smallPre_mem {l p : List UInt8} (h : smallPre l = true) (hp : p ∈ parts 46 l) (hd : digits p = true) : p.length ≤ 19 := by
  have := List.all_eq_true.1 h p hp
  simp only [hd, Bool.true_and, Bool.not_eq_true', decide_eq_false_iff_not] at this
  omega
theorem preIdent_ne {l : List UInt8} (h : preIdent l = true) : l ≠ [] := by
  simp only [preIdent, Bool.and_eq_true] at h
  exact ident_ne h.1

theorem pcmp_nil {x : List UInt8} (h : x ≠ []) : pcmp (ba x) ⟨#[]⟩ = 1 := by
  unfold pcmp partCmp
  have e : (⟨#[]⟩ : ByteArray).toList = [] := by rw [toList_eq]
  rw [ba_toList, e]
  simp [h]
theorem nil_pcmp {x : List UInt8} (h : x ≠ []) : pcmp ⟨#[]⟩ (ba x) = -1 := by
  unfold pcmp partCmp
  have e : (⟨#[]⟩ : ByteArray).toList = [] := by rw [toList_eq]
  rw [ba_toList, e]
  have : ¬ ([] : List UInt8) = x := fun e => h e.symm
  simp [this, h]

theorem preCmpL_spec : ∀ (X Y : List (List UInt8)), (∀ x ∈ X, preIdent x = true ∧ (digits x = true → x.length ≤ 19)) → (∀ y ∈ Y, preIdent y = true ∧ (digits y = true → y.length ≤ 19)) → preCmpL (X.map ba) (Y.map ba) = specL X Y
  | [], [], _, _ => by simp [preCmpL, specL]
  | x :: X, [], hX, _ => by
    have := preIdent_ne (hX x (by simp)).1
    simp only [List.map_cons, List.map_nil, preCmpL, specL]
    rw [pcmp_nil this]
    rfl
  | [], y :: Y, _, hY => by
    have := preIdent_ne (hY y (by simp)).1
    simp only [List.map_cons, List.map_nil, preCmpL, specL]
    rw [nil_pcmp this]
    rfl
  | x :: X, y :: Y, hX, hY => by
    have ih := preCmpL_spec X Y (fun z hz => hX z (by simp [hz])) (fun z hz => hY z (by simp [hz]))
    obtain ⟨ix, sx⟩ := hX x (by simp)
    obtain ⟨iy, sy⟩ := hY y (by simp)
    have := part_spec (s := ba x) (o := ba y) (by rw [ba_data]; exact ix) (by rw [ba_data]; exact iy) (by rw [ba_data]; exact sx) (by rw [ba_data]; exact sy)
    rw [ba_data, ba_data] at this
    simp only [List.map_cons, preCmpL, specL]
    rw [this, ih]

theorem specL_self : ∀ X : List (List UInt8), specL X X = 0
  | [] => by simp [specL]
  | x :: X => by
    simp only [specL]
    rw [if_pos (specPart_zero.2 rfl), specL_self X]

/-- A prerelease is empty, or valid with short numbers. -/
def okPre (p : List UInt8) : Prop := p = [] ∨ (validPre p = true ∧ smallPre p = true)
theorem okPre_of {p m : List UInt8} (h : good p m = true) : okPre p := by
  simp only [good, Bool.and_eq_true, Bool.or_eq_true, beq_iff_eq] at h
  exact h.1

theorem pre_spec {p q : ByteArray} (hp : okPre p.data.toList) (hq : okPre q.data.toList) : tailCmp p q = specPre p.data.toList q.data.toList := by
  unfold tailCmp specPre preCmp
  rw [toList_eq, toList_eq]
  generalize p.data.toList = x at *
  generalize q.data.toList = y at *
  by_cases hx : x = []
  · by_cases hy : y = []
    · simp [hx, hy]
    · have : ¬ ([] : List UInt8) = y := fun e => hy e.symm
      simp [hx, hy, this]
  · by_cases hy : y = []
    · simp [hx, hy]
    · rw [if_neg (by simpa using hx), if_neg (by simpa using hy), if_neg hx, if_neg hy]
      obtain ⟨vx, sx⟩ := hp.resolve_left hx
      obtain ⟨vy, sy⟩ := hq.resolve_left hy
      rw [preCmpL_spec _ _ (fun z hz => ⟨validPre_mem vx hz, smallPre_mem sx hz⟩) (fun z hz => ⟨validPre_mem vy hz, smallPre_mem sy hz⟩)]
      by_cases e : x = y
      · rw [if_pos e, e, specL_self]
      · rw [if_neg e]

theorem ver_spec {a b c a' b' c' : Int} {p q : ByteArray} (hp : okPre p.data.toList) (hq : okPre q.data.toList) : verCmp a b c p a' b' c' q = specVer a b c p.data.toList a' b' c' q.data.toList := by
  unfold verCmp specVer
  rw [pre_spec hp hq]
end Go.Proofs.YtgenbmhmcnaiiaaDoor.H
