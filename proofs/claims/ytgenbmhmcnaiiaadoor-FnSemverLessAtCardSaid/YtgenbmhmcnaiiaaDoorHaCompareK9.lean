/- The specification's comparison, as a plain function; of valid parts it is what the code computes. -/
import Derived.Test.YtgenbmhmcnaiiaaDoorHaOrderK9
import Derived.Test.YtgenbmhmcnaiiaaDoorHaNumK9
import Derived.Test.YtgenbmhmcnaiiaaDoorPGx12K9
import Derived.Test.YtgenbmhmcnaiiaaDoorPGx13K9
namespace Go.Proofs.YtgenbmhmcnaiiaaDoor.H
open Go.RowKit Go.Proofs.YtgenbmhmcnaiiaaDoor.PG
open Go.Proofs.YtgenbmhmcnaiiaaDoorW.PrintWords hiding Ev Ev.bind
set_option linter.unusedVariables false
set_option linter.unusedSimpArgs false
set_option linter.unnecessarySimpa false

theorem wrap_size {n : Nat} (h : n ≤ 9223372036854775807) : IntKind.u64.wrap (n : Int) = (n : Int) := by
  simp [IntKind.wrap, IntKind.bits, IntKind.signed]
  omega
theorem order_ev (a b : Int) : spec_order.f a b = some (segCmp a b) := by
  unfold spec_order.f segCmp
  by_cases h : a < b
  · rw [if_pos h, if_pos h]
  · rw [if_neg h, if_neg h]
    by_cases k : b < a
    · rw [if_pos (by omega), if_pos k]
    · rw [if_neg (by omega), if_neg k]

theorem part_j0 (x y : ByteArray) (hx : x.size ≤ 9223372036854775807) (hy : y.size ≤ 9223372036854775807) (hne : x.data.toList ≠ y.data.toList) (q : Bool)
    (hq : q = (digits x.data.toList && digits y.data.toList && (x.data.toList.length != y.data.toList.length))) :
    Ev (fun k => spec_ComparePart.j0 k x y q) (specPart x.data.toList y.data.toList) := by
  refine Ev.succ ?_
  simp only [spec_ComparePart.j0]
  unfold specPart
  rw [if_neg hne, ← hq]
  refine Ev.ite (fun e => ?_) (fun e => ?_)
  · rw [wrap_size hx, wrap_size hy, order_ev]
    simp only [Option.bind_some]
    refine (Ev.val _).eq ?_
    rw [if_pos e]
    rw [hq] at e
    simp only [Bool.and_eq_true, bne_iff_ne, ne_eq] at e
    unfold segCmp
    rw [size_eq, size_eq]
    by_cases h : x.data.toList.length < y.data.toList.length
    · rw [if_pos (by omega), if_pos h]
    · rw [if_neg (by omega), if_pos (by omega), if_neg h]
  · rw [if_neg e]
    refine Ev.bind (digits_ev x hx) (Ev.bind (digits_ev y hy) ?_)
    refine Ev.ite (fun e1 => ?_) (fun e1 => ?_)
    · rw [if_pos (by simpa using e1)]
      refine Ev.bind (digits_ev x hx) ?_
      exact Ev.ite (fun h => (Ev.val _).eq (by rw [if_pos h])) (fun h => (Ev.val _).eq (by rw [if_neg h]))
    · rw [if_neg (show ¬ (digits x.data.toList ≠ digits y.data.toList) by simpa using e1), toList_eq, toList_eq]
      exact Ev.ite (fun h => (Ev.val _).eq (by rw [if_pos h])) (fun h => (Ev.val _).eq (by rw [if_neg h]))

theorem comparePart_ev (x y : ByteArray) (hx : x.size ≤ 9223372036854775807) (hy : y.size ≤ 9223372036854775807) : Ev (fun k => spec_ComparePart.f k x y) (specPart x.data.toList y.data.toList) := by
  unfold spec_ComparePart.f
  rw [toList_eq, toList_eq]
  refine Ev.ite (fun e => ?_) (fun e => ?_)
  · refine (Ev.val _).eq ?_
    unfold specPart
    rw [if_pos e]
  · have hl : ((x.size : Int) != (y.size : Int)) = (x.data.toList.length != y.data.toList.length) := by
      rw [size_eq, size_eq]
      by_cases h : x.data.toList.length = y.data.toList.length
      · simp [h]
      · have h' : ¬ ((x.data.toList.length : Int) = (y.data.toList.length : Int)) := by omega
        rw [bne_iff_ne.2 h, bne_iff_ne.2 h']
    refine Ev.bind (digits_ev x hx) ?_
    refine Ev.ite (fun d1 => Ev.bind (digits_ev y hy) ?_) (fun d1 => part_j0 x y hx hy e _ (by simp [d1]))
    refine Ev.ite (fun d2 => part_j0 x y hx hy e _ (by rw [hl, d1, d2]; simp)) (fun d2 => part_j0 x y hx hy e _ (by simp [d2]))

theorem specPart_zero {x y : List UInt8} : specPart x y = 0 ↔ x = y := by
  unfold specPart
  by_cases h : x = y
  · simp [h]
  · rw [if_neg h]
    simp only [h, iff_false]
    split
    · split <;> decide
    · split
      · split <;> decide
      · split <;> decide

/-- Prereleases, part by part. -/
def specL : List (List UInt8) → List (List UInt8) → Int
  | [], [] => 0
  | _ :: _, [] => 1
  | [], _ :: _ => -1
  | x :: xs, y :: ys => if specPart x y = 0 then specL xs ys else specPart x y
/-- Prereleases by clause 11. -/
def specPre (p q : List UInt8) : Int := if p = q then 0 else if p = [] then 1 else if q = [] then -1 else specL (parts 46 p) (parts 46 q)

theorem pre_loop (X Y : List (List UInt8)) (hX : X.length ≤ 9223372036854775806) (hY : Y.length ≤ 9223372036854775806) (sX : ∀ x ∈ X, x.length ≤ 9223372036854775807) (sY : ∀ y ∈ Y, y.length ≤ 9223372036854775807) :
    ∀ n (i : Nat), X.length - i = n → i ≤ X.length → i ≤ Y.length → Ev (fun k => spec_ComparePre.l0 k (X.map ba) (Y.map ba) (i : Int)) (specL (X.drop i) (Y.drop i)) := by
  have lx : (X.map ba).length = X.length := List.length_map ..
  have ly : (Y.map ba).length = Y.length := List.length_map ..
  have endE : ∀ (i : Nat), i ≤ X.length → i ≤ Y.length → (i = X.length ∨ i = Y.length) → Ev (fun k => spec_ComparePre.j1 k (X.map ba) (Y.map ba) (i : Int) false) (specL (X.drop i) (Y.drop i)) := by
    intro i hx hy h
    refine Ev.succ ?_
    simp only [spec_ComparePre.j1]
    refine Ev.neg (by simp) ?_
    rw [lx, ly, wrap_size (by omega), wrap_size (by omega), order_ev]
    simp only [Option.bind_some]
    refine (Ev.val _).eq ?_
    unfold segCmp
    rcases Nat.lt_trichotomy X.length Y.length with c | c | c
    · have : i = X.length := by omega
      subst this
      rw [List.drop_length, List.drop_eq_getElem_cons c, if_pos (by omega)]
      rfl
    · have : i = X.length := by omega
      subst this
      rw [List.drop_length, c, List.drop_length, if_neg (by omega), if_neg (by omega)]
      rfl
    · have : i = Y.length := by omega
      subst this
      rw [List.drop_length, List.drop_eq_getElem_cons c, if_neg (by omega), if_pos (by omega)]
      rfl
  intro n
  induction n with
  | zero =>
    intro i hn hx hy
    refine Ev.succ ?_
    simp only [spec_ComparePre.l0]
    rw [lx, ly]
    exact Ev.neg (by omega) (endE i hx hy (by omega))
  | succ n ih =>
    intro i hn hx hy
    refine Ev.succ ?_
    simp only [spec_ComparePre.l0]
    rw [lx, ly]
    refine Ev.pos (by omega) ?_
    by_cases h : i < Y.length
    · have hxi : i < X.length := by omega
      rw [decide_eq_true (by omega)]
      refine Ev.succ ?_
      simp only [spec_ComparePre.j1]
      rw [lx, ly]
      refine Ev.pos (by simp) (Ev.pos (by omega) (Ev.pos (by omega) (Ev.pos (by omega) ?_)))
      rw [rd_get (by rw [lx]; exact hxi), rd_get (by rw [ly]; exact h), List.getElem_map, List.getElem_map]
      have b1 := sX X[i] (List.getElem_mem hxi)
      have b2 := sY Y[i] (List.getElem_mem h)
      have hc := comparePart_ev (ba X[i]) (ba Y[i]) (by rw [ba_size]; exact b1) (by rw [ba_size]; exact b2)
      rw [ba_data, ba_data] at hc
      refine Ev.bind hc ?_
      rw [List.drop_eq_getElem_cons hxi, List.drop_eq_getElem_cons h]
      simp only [specL]
      refine Ev.ite (fun e => ?_) (fun e => ?_)
      · rw [if_pos e, wrap1 hxi (by omega)]
        exact ih (i + 1) (by omega) (by omega) (by omega)
      · rw [if_neg e]
        exact Ev.val _
    · rw [decide_eq_false (by omega)]
      exact endE i hx hy (by omega)

theorem comparePre_ev (p q : ByteArray) (hp : p.size < 8796093022207) (hq : q.size < 8796093022207) : Ev (fun k => spec_ComparePre.f k p q) (specPre p.data.toList q.data.toList) := by
  unfold spec_ComparePre.f specPre
  rw [toList_eq, toList_eq]
  refine Ev.ite (fun e => (Ev.val _).eq (by rw [if_pos e])) (fun e => ?_)
  rw [if_neg e]
  refine Ev.ite (fun e1 => (Ev.val _).eq (by rw [if_pos e1])) (fun e1 => ?_)
  rw [if_neg e1]
  refine Ev.ite (fun e2 => (Ev.val _).eq (by rw [if_pos e2])) (fun e2 => ?_)
  rw [if_neg e2]
  refine Ev.bind (idents_ev p hp) (Ev.bind (idents_ev q hq) ?_)
  have l1 := parts_length 46 p.data.toList
  have l2 := parts_length 46 q.data.toList
  have s1 := size_eq p
  have s2 := size_eq q
  have := pre_loop (parts 46 p.data.toList) (parts 46 q.data.toList) (by omega) (by omega) (fun x hx => by have := parts_mem_length hx; omega) (fun x hx => by have := parts_mem_length hx; omega) _ 0 rfl (by omega) (by omega)
  simpa using this

/-- Versions by clause 11. -/
def specVer (a b c : Int) (p : List UInt8) (a' b' c' : Int) (q : List UInt8) : Int :=
  if segCmp a a' = 0 then (if segCmp b b' = 0 then (if segCmp c c' = 0 then specPre p q else segCmp c c') else segCmp b b') else segCmp a a'

theorem numTail3 (a b c : Int) : numTail a b c 3 0 = if a = 0 then (if b = 0 then c else b) else a := by simp [numTail, nt0, nt1, nt2]
theorem compare_ev (a b c a' b' c' : Int) (p m p' m' : ByteArray) (hp : p.size < 8796093022207) (hp' : p'.size < 8796093022207) :
    Ev (fun k => spec_Compare.f k a b c p m a' b' c' p' m') (specVer a b c p.data.toList a' b' c' p'.data.toList) := by
  unfold spec_Compare.f spec_CompareNumbers.f specVer
  simp only [Option.bind_some]
  rw [numTail3]
  by_cases h1 : segCmp a a' = 0
  · by_cases h2 : segCmp b b' = 0
    · by_cases h3 : segCmp c c' = 0
      · simp only [h1, h2, h3, if_true]
        exact Ev.bind (comparePre_ev p p' hp hp') (Ev.val _)
      · simp only [h1, h2, h3, if_true, if_false]
        exact Ev.val _
    · simp only [h1, h2, if_true, if_false]
      exact Ev.val _
  · simp only [h1, if_false]
    exact Ev.val _

/-! ### the code's comparison is the same -/
theorem validPre_mem {l p : List UInt8} (h : validPre l = true) (hp : p ∈ parts 46 l) : preIdent p = true := List.all_eq_true.1 h p hp
theorem smallPre_mem {l p : List UInt8} (h : smallPre l = true) (hp : p ∈ parts 46 l) (hd : digits p = true) : p.length ≤ 19 := by
  have := List.all_eq_true.1 h p hp
  simp only [hd, Bool.true_and, Bool.not_eq_true', decide_eq_false_iff_not] at this
  omega
theorem preIdent_ne {l : List UInt8} (h : preIdent l = true) : l ≠ [] := by
  simp only [preIdent, Bool.and_eq_true] at h
  exact ident_ne h.1

theorem pcmp_nil {x : List UInt8} (h : x ≠ []) : pcmp (ba x) ⟨#[]⟩ = 1 := by
  unfold pcmp partCmp
  have e : (⟨#[]⟩ : ByteArray).toList = [] := by rw [toList_eq]
  rw [ba_toList, e]
  simp [h]
theorem nil_pcmp {x : List UInt8} (h : x ≠ []) : pcmp ⟨#[]⟩ (ba x) = -1 := by
  unfold pcmp partCmp
  have e : (⟨#[]⟩ : ByteArray).toList = [] := by rw [toList_eq]
  rw [ba_toList, e]
  have : ¬ ([] : List UInt8) = x := fun e => h e.symm
  simp [this, h]

theorem preCmpL_spec : ∀ (X Y : List (List UInt8)), (∀ x ∈ X, preIdent x = true ∧ (digits x = true → x.length ≤ 19)) → (∀ y ∈ Y, preIdent y = true ∧ (digits y = true → y.length ≤ 19)) → preCmpL (X.map ba) (Y.map ba) = specL X Y
  | [], [], _, _ => by simp [preCmpL, specL]
  | x :: X, [], hX, _ => by
    have := preIdent_ne (hX x (by simp)).1
    simp only [List.map_cons, List.map_nil, preCmpL, specL]
    rw [pcmp_nil this]
    rfl
  | [], y :: Y, _, hY => by
    have := preIdent_ne (hY y (by simp)).1
    simp only [List.map_cons, List.map_nil, preCmpL, specL]
    rw [nil_pcmp this]
    rfl
  | x :: X, y :: Y, hX, hY => by
    have ih := preCmpL_spec X Y (fun z hz => hX z (by simp [hz])) (fun z hz => hY z (by simp [hz]))
    obtain ⟨ix, sx⟩ := hX x (by simp)
    obtain ⟨iy, sy⟩ := hY y (by simp)
    have := part_spec (s := ba x) (o := ba y) (by rw [ba_data]; exact ix) (by rw [ba_data]; exact iy) (by rw [ba_data]; exact sx) (by rw [ba_data]; exact sy)
    rw [ba_data, ba_data] at this
    simp only [List.map_cons, preCmpL, specL]
    rw [this, ih]

theorem specL_self : ∀ X : List (List UInt8), specL X X = 0
  | [] => by simp [specL]
  | x :: X => by
    simp only [specL]
    rw [if_pos (specPart_zero.2 rfl), specL_self X]

/-- A prerelease is empty, or valid with short numbers. -/
def okPre (p : List UInt8) : Prop := p = [] ∨ (validPre p = true ∧ smallPre p = true)
theorem okPre_of {p m : List UInt8} (h : good p m = true) : okPre p := by
  simp only [good, Bool.and_eq_true, Bool.or_eq_true, beq_iff_eq] at h
  exact h.1

theorem pre_spec {p q : ByteArray} (hp : okPre p.data.toList) (hq : okPre q.data.toList) : tailCmp p q = specPre p.data.toList q.data.toList := by
  unfold tailCmp specPre preCmp
  rw [toList_eq, toList_eq]
  generalize p.data.toList = x at *
  generalize q.data.toList = y at *
  by_cases hx : x = []
  · by_cases hy : y = []
    · simp [hx, hy]
    · have : ¬ ([] : List UInt8) = y := fun e => hy e.symm
      simp [hx, hy, this]
  · by_cases hy : y = []
    · simp [hx, hy]
    · rw [if_neg (by simpa using hx), if_neg (by simpa using hy), if_neg hx, if_neg hy]
      obtain ⟨vx, sx⟩ := hp.resolve_left hx
      obtain ⟨vy, sy⟩ := hq.resolve_left hy
      rw [preCmpL_spec _ _ (fun z hz => ⟨validPre_mem vx hz, smallPre_mem sx hz⟩) (fun z hz => ⟨validPre_mem vy hz, smallPre_mem sy hz⟩)]
      by_cases e : x = y
      · rw [if_pos e, e, specL_self]
      · rw [if_neg e]

theorem ver_spec {a b c a' b' c' : Int} {p q : ByteArray} (hp : okPre p.data.toList) (hq : okPre q.data.toList) : verCmp a b c p a' b' c' q = specVer a b c p.data.toList a' b' c' q.data.toList := by
  unfold verCmp specVer
  rw [pre_spec hp hq]
end Go.Proofs.YtgenbmhmcnaiiaaDoor.H
