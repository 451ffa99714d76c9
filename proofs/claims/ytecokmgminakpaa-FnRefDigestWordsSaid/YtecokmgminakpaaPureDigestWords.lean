/- The law of digests' algorithms, plainly: what the printed law comes to is true of every two texts and every number. -/
import Derived.Test.YtecokmgminakpaaPGx2
namespace Go.Proofs.Ytecokmgminakpaa.H
open Go.RowKit Go.Proofs.YtecokmgminakpaaW.PrintWords Go.Proofs.Ytecokmgminakpaa.PG
set_option linter.unusedVariables false
set_option linter.unusedSimpArgs false
set_option linter.unnecessarySimpa false

def astep (bg : Bool) (b : Nat) : Option Bool := if sepB b then (if bg then none else some true) else if letB b then some false else if numB b then (if bg then none else some false) else none
/-- The specification's reading of an algorithm. -/
def alg : Bool → List UInt8 → Bool
  | bg, [] => !bg
  | bg, x :: l => match astep bg x.toNat with
    | none => false
    | some b' => alg b' l
theorem alnum_tab : ((List.range 256).all fun b => decide (spec_refAlnum.f (b : Int) = some (letB b || numB b)) && decide (spec_refDigit.f (b : Int) = some (numB b))) = true := by kernel_rfl
theorem alnum_at (b : Nat) (h : b < 256) : spec_refAlnum.f (b : Int) = some (letB b || numB b) ∧ spec_refDigit.f (b : Int) = some (numB b) := by
  have := List.all_eq_true.1 alnum_tab b (List.mem_range.2 h)
  rw [Bool.and_eq_true] at this
  exact ⟨of_decide_eq_true this.1, of_decide_eq_true this.2⟩
theorem byte_lt (x : UInt8) : x.toNat < 256 := x.toNat_lt

theorem alg_l0 (s : ByteArray) (hs : s.size ≤ 9223372036854775807) : ∀ (n i : Nat) (bg : Bool), s.data.toList.length - i = n → i ≤ s.data.toList.length → Ev (fun k => spec_RefAlgorithm.l0 k s bg (i : Int)) (alg bg (s.data.toList.drop i)) := by
  intro n
  induction n with
  | zero =>
    intro i bg hn hi
    refine Ev.succ ?_
    simp only [spec_RefAlgorithm.l0]
    rw [List.drop_eq_nil_of_le (by omega)]
    exact Ev.neg (by rw [size_eq]; omega) (Ev.val _)
  | succ n ih =>
    intro i bg hn hi
    have hlt : i < s.data.toList.length := by omega
    have hi' : i < s.size := by rw [size_eq]; exact hlt
    obtain ⟨hh, hb⟩ := bt_data s i hi'
    obtain ⟨t1, t2⟩ := alnum_at s.data.toList[i].toNat (byte_lt _)
    rw [List.drop_eq_getElem_cons hlt, alg]
    have nextT := ih (i + 1) true (by omega) (by omega)
    have nextF := ih (i + 1) false (by omega) (by omega)
    generalize s.data.toList[i].toNat = b at *
    have j2 : ∀ (x : Bool) (v : Bool), (x = true → v = false) → (x = false → (letB b || numB b) = true → Ev (fun k => spec_RefAlgorithm.l0 k s false ((i + 1 : Nat) : Int)) v) → (x = false → (letB b || numB b) = false → v = false) → Ev (fun k => spec_RefAlgorithm.j2 k s (i : Int) (b : Int) x) v := by
      intro x v h1 h2 h3
      refine Ev.succ ?_
      simp only [spec_RefAlgorithm.j2]
      refine Ev.ite (fun h => ?_) (fun h => ?_)
      · rw [h1 h]
        exact Ev.val _
      · have hx : x = false := by simpa using h
        rw [t1]
        simp only [Option.bind_some]
        refine Ev.ite (fun ha => ?_) (fun ha => ?_)
        · rw [wrap1 hi' hs]
          exact h2 hx ha
        · rw [h3 hx (by simpa using ha)]
          exact Ev.val _
    have j1 : ∀ sp : Bool, sp = sepB b → Ev (fun k => spec_RefAlgorithm.j1 k s bg (i : Int) (b : Int) sp) (match astep bg b with | none => false | some b' => alg b' (s.data.toList.drop (i + 1))) := by
      intro sp hsp
      refine Ev.succ ?_
      simp only [spec_RefAlgorithm.j1]
      refine Ev.ite (fun h => ?_) (fun h => ?_)
      · rw [hsp] at h
        unfold astep
        rw [if_pos h]
        refine Ev.ite (fun hb => ?_) (fun hb => ?_)
        · rw [if_pos hb]
          exact Ev.val _
        · rw [if_neg hb, wrap1 hi' hs]
          exact nextT
      · have h' : sepB b = false := by rw [← hsp]; simpa using h
        unfold astep
        rw [if_neg (by simp [h'])]
        refine Ev.ite (fun hb => ?_) (fun hb => ?_)
        · rw [t1]
          simp only [Option.bind_some]
          cases hl : letB b
          · cases hn : numB b
            · refine Ev.neg (by simp) (j2 true _ (fun _ => by simp) (fun h => by cases h) (fun h => by cases h))
            · refine Ev.pos (by simp) ?_
              rw [t2, hn]
              simp only [Option.bind_some]
              refine j2 true _ (fun _ => by simp [hb]) (fun h => by cases h) (fun h => by cases h)
          · have hn : numB b = false := by
              simp only [letB, numB, Bool.or_eq_true, Bool.and_eq_true, decide_eq_true_eq] at hl ⊢
              simp only [Bool.and_eq_false_iff, decide_eq_false_iff_not]
              omega
            refine Ev.pos (by simp) ?_
            rw [t2, hn]
            simp only [Option.bind_some]
            refine j2 false _ (fun h => by cases h) (fun _ _ => ?_) (fun _ ha => by simp [hl] at ha)
            simpa using nextF
        · refine j2 false _ (fun h => by cases h) (fun _ ha => ?_) (fun _ ha => ?_)
          · cases hl : letB b
            · have hn : numB b = true := by simpa [hl] using ha
              simpa [hn, hb] using nextF
            · simpa using nextF
          · have hl : letB b = false := by
              cases h : letB b
              · rfl
              · simp [h] at ha
            have hn : numB b = false := by simpa [hl] using ha
            simp [hl, hn]
    refine Ev.succ ?_
    simp only [spec_RefAlgorithm.l0, hb]
    refine Ev.pos (by rw [size_eq]; omega) (Ev.pos (by omega) ?_)
    refine Ev.ite (fun h => j1 true ?_) (fun h1 => Ev.ite (fun h => j1 true ?_) (fun h2 => Ev.ite (fun h => j1 true ?_) (fun h3 => j1 _ ?_)))
    · rw [show b = 43 by omega]; rfl
    · rw [show b = 46 by omega]; rfl
    · rw [show b = 45 by omega]; rfl
    · have e1 : (b == 43) = false := by rw [beq_eq_false_iff_ne]; omega
      have e2 : (b == 45) = false := by rw [beq_eq_false_iff_ne]; omega
      have e3 : (b == 46) = false := by rw [beq_eq_false_iff_ne]; omega
      rw [sepB, e1, e2, e3]
      simp only [Bool.false_or]
      by_cases h : b = 95
      · rw [h]; rfl
      · rw [beq_eq_false_iff_ne.2 h, beq_eq_false_iff_ne.2 (by omega)]
theorem alg_ev (s : ByteArray) (hs : s.size ≤ 9223372036854775807) : Ev (fun k => spec_RefAlgorithm.f k s) (alg true s.data.toList) := alg_l0 s hs _ 0 true rfl (by omega)

/-! What an algorithm does to the automaton -/
def stOf (bg : Bool) : St := if bg then .b else .c
def dfold : St → List UInt8 → Option St
  | st, [] => some st
  | st, x :: l => match dstep st x.toNat with
    | none => none
    | some st' => dfold st' l
theorem dacc_append : ∀ (l m : List UInt8) (st : St), dacc st (l ++ m) = match dfold st l with
    | none => false
    | some st' => dacc st' m := by
  intro l
  induction l with
  | nil => intro m st; rfl
  | cons x l ih =>
    intro m st
    rw [List.cons_append, dacc, dfold]
    cases dstep st x.toNat with
    | none => rfl
    | some st' => exact ih m st'
theorem step_tab : ([true, false].all fun bg => (List.range 256).all fun b => match astep bg b with | none => true | some b' => decide (dstep (stOf bg) b = some (stOf b')) && decide (b < 128)) = true := by kernel_rfl
theorem step_at {bg : Bool} {b : Nat} {b' : Bool} (h : b < 256) (ha : astep bg b = some b') : dstep (stOf bg) b = some (stOf b') ∧ b < 128 := by
  have := List.all_eq_true.1 (List.all_eq_true.1 step_tab bg (by cases bg <;> simp)) b (List.mem_range.2 h)
  rw [ha] at this
  simp only [Bool.and_eq_true, decide_eq_true_eq] at this
  exact this
theorem alg_fold : ∀ (l : List UInt8) (bg : Bool), alg bg l = true → dfold (stOf bg) l = some .c ∧ ∀ b ∈ l, b.toNat < 128 := by
  intro l
  induction l with
  | nil =>
    intro bg h
    cases bg with
    | true => cases h
    | false => exact ⟨rfl, by simp⟩
  | cons x l ih =>
    intro bg h
    rw [alg] at h
    cases ha : astep bg x.toNat with
    | none => simp [ha] at h
    | some b' =>
      rw [ha] at h
      obtain ⟨h1, h2⟩ := step_at (byte_lt x) ha
      obtain ⟨h3, h4⟩ := ih b' h
      refine ⟨by rw [dfold, h1]; exact h3, fun b hb => ?_⟩
      rcases List.mem_cons.1 hb with rfl | hb
      · exact h2
      · exact h4 b hb
theorem letter_tab : ((List.range 256).all fun b => match astep true b with | none => true | some b' => decide (b' = false) && decide (dstep .c b = some .c)) = true := by kernel_rfl
/-- .. behind a component, too. -/
theorem alg_fold_c {l : List UInt8} (h : alg true l = true) : dfold .c l = some .c := by
  cases l with
  | nil => cases h
  | cons x l =>
    rw [alg] at h
    cases ha : astep true x.toNat with
    | none => simp [ha] at h
    | some b' =>
      rw [ha] at h
      have ht := List.all_eq_true.1 letter_tab x.toNat (List.mem_range.2 (byte_lt x))
      rw [ha] at ht
      simp only [Bool.and_eq_true, decide_eq_true_eq] at ht
      rw [ht.1] at h
      rw [dfold, ht.2]
      exact (alg_fold l false h).1
theorem dfold_append : ∀ (l m : List UInt8) (st st' : St), dfold st l = some st' → dfold st (l ++ m) = dfold st' m := by
  intro l
  induction l with
  | nil => intro m st st' h; cases h; rfl
  | cons x l ih =>
    intro m st st' h
    rw [List.cons_append, dfold]
    rw [dfold] at h
    cases hd : dstep st x.toNat with
    | none => rw [hd] at h; cases h
    | some q =>
      rw [hd] at h
      exact ih m q st' h
/-- The 32 zeros behind a colon. -/
def Z : List UInt8 := [58, 48, 48, 48, 48, 48, 48, 48, 48, 48, 48, 48, 48, 48, 48, 48, 48, 48, 48, 48, 48, 48, 48, 48, 48, 48, 48, 48, 48, 48, 48, 48, 48]
theorem Z_c : dacc .c Z = true := by kernel_rfl
theorem Z_b : dacc .b Z = false := by kernel_rfl
theorem sep_c {c : UInt8} (h : sepB c.toNat = true) : dstep .c c.toNat = some .b ∧ dstep .b c.toNat = none ∧ c.toNat < 128 := by
  have t : ((List.range 256).all fun b => !sepB b || (decide (dstep .c b = some .b) && decide (dstep .b b = none) && decide (b < 128))) = true := by kernel_rfl
  have := List.all_eq_true.1 t c.toNat (List.mem_range.2 (byte_lt c))
  rw [h, Bool.not_true, Bool.false_or, Bool.and_eq_true, Bool.and_eq_true, decide_eq_true_eq, decide_eq_true_eq, decide_eq_true_eq] at this
  exact ⟨this.1.1, this.1.2, this.2⟩
theorem f_of {t : ByteArray} {l : List UInt8} {R : Bool} (ht : t.data.toList = l) (hp : ∀ b ∈ l, b.toNat < 128) (hl : l.length ≤ 2147483647) (hR : dig l = R) : impl_RefIsDigest.f t = some R := by
  unfold impl_RefIsDigest.f
  rw [ht, if_pos, hR]
  simp only [plainOk, Bool.and_eq_true, List.all_eq_true, decide_eq_true_eq]
  exact ⟨hp, hl⟩
theorem dig_no {l : List UInt8} (h : dacc .b l = false) : dig l = false := by simp [dig, h]
theorem dig_yes {l : List UInt8} (h : dacc .b l = true) (hl : 34 ≤ l.length) : dig l = true := by
  rw [dig, h, decide_eq_false (by omega)]
  rfl

set_option maxRecDepth 100000 in
theorem signs (n : Int) (h0 : 0 ≤ n) (h1 : n < 4) : ∃ c : UInt8, Utf8.encode (bt (⟨#[43, 46, 45, 95]⟩ : ByteArray) n) = ba [c] ∧ sepB c.toNat = true := by
  have hn : n = 0 ∨ n = 1 ∨ n = 2 ∨ n = 3 := by omega
  rcases hn with rfl | rfl | rfl | rfl
  · exact ⟨43, by kernel_rfl, rfl⟩
  · exact ⟨46, by kernel_rfl, rfl⟩
  · exact ⟨45, by kernel_rfl, rfl⟩
  · exact ⟨95, by kernel_rfl, rfl⟩
theorem app_data (s t : ByteArray) : (s ++ t).data.toList = s.data.toList ++ t.data.toList := by simp

theorem pure (a0 a1 : ByteArray) (a2 : Int) : ∃ k, laws_FnRefDigestWords.f k a0 a1 a2 = some true := by
  refine Ev.get (g := fun k => laws_FnRefDigestWords.f k a0 a1 a2) ?_
  unfold laws_FnRefDigestWords.f
  have big : Ev (fun k => laws_FnRefDigestWords.j0 k a0 a1 a2 true) true := by
    refine Ev.succ ?_
    simp only [laws_FnRefDigestWords.j0]
    exact Ev.pos (by simp) (Ev.val _)
  refine Ev.ite (fun _ => big) (fun h0 => ?_)
  by_cases h1 : (a1.size : Int) > 2147483647
  · rw [decide_eq_true h1]
    exact big
  rw [decide_eq_false h1]
  have skip : Ev (fun k => laws_FnRefDigestWords.j1 k a0 a1 a2 true) true := by
    refine Ev.succ ?_
    simp only [laws_FnRefDigestWords.j1]
    exact Ev.pos (by simp) (Ev.val _)
  refine Ev.succ ?_
  simp only [laws_FnRefDigestWords.j0]
  refine Ev.neg (by simp) (Ev.ite (fun _ => skip) (fun hsum => ?_))
  refine Ev.bind (alg_ev a0 (by omega)) (Ev.ite (fun ha0 => ?_) (fun _ => skip))
  refine Ev.bind (alg_ev a1 (by omega)) ?_
  cases ha1 : alg true a1.data.toList
  · exact skip
  rw [show wrap64 ((a0.size : Int) + (a1.size : Int)) = (a0.size : Int) + (a1.size : Int) by unfold wrap64; omega] at hsum
  have s0 := size_eq a0
  have s1 := size_eq a1
  obtain ⟨f0, p0⟩ := alg_fold _ _ ha0
  obtain ⟨f1, p1⟩ := alg_fold _ _ ha1
  have f1c := alg_fold_c ha1
  have f0 : dfold .b a0.data.toList = some .c := f0
  have f1 : dfold .b a1.data.toList = some .c := f1
  have hne : 1 ≤ a0.data.toList.length := by
    cases h : a0.data.toList with
    | nil => rw [h] at ha0; cases ha0
    | cons x l => simp
  refine Ev.succ ?_
  simp only [laws_FnRefDigestWords.j1]
  have m0 : 0 ≤ Int.tmod (IntKind.u64.wrap a2) 4 := by
    rw [IntKind.wrap_u64]
    exact Int.tmod_nonneg _ (by omega)
  have m1 : Int.tmod (IntKind.u64.wrap a2) 4 < 4 := Int.tmod_lt_of_pos _ (by decide)
  refine Ev.neg (by simp) (Ev.pos m0 (Ev.pos m1 ?_))
  obtain ⟨c, ec, hc⟩ := signs _ m0 m1
  rw [ec]
  obtain ⟨c1, c2, c3⟩ := sep_c hc
  have zl : Z.length = 33 := rfl
  have pz : ∀ b ∈ Z, b.toNat < 128 := by decide
  have pc : ∀ b ∈ [c], b.toNat < 128 := by simpa using c3
  have app : ∀ {l m : List UInt8}, (∀ b ∈ l, b.toNat < 128) → (∀ b ∈ m, b.toNat < 128) → ∀ b ∈ l ++ m, b.toNat < 128 := by
    intro l m h1 h2 b hb
    rcases List.mem_append.1 hb with h | h
    · exact h1 b h
    · exact h2 b h
  have fc : dfold .c [c] = some .b := by rw [dfold, c1]; rfl
  have fcc : dfold .c [c, c] = none := by rw [dfold, c1]; simp only; rw [dfold, c2]
  have fbc : dfold .b [c] = none := by rw [dfold, c2]
  have sc : (ba [c]).size = 1 := rfl
  have zz : ((⟨#[58, 48, 48, 48, 48, 48, 48, 48, 48, 48, 48, 48, 48, 48, 48, 48, 48, 48, 48, 48, 48, 48, 48, 48, 48, 48, 48, 48, 48, 48, 48, 48, 48]⟩ : ByteArray)).data.toList = Z := rfl
  have r1 := f_of (t := a0 ++ (⟨#[58, 48, 48, 48, 48, 48, 48, 48, 48, 48, 48, 48, 48, 48, 48, 48, 48, 48, 48, 48, 48, 48, 48, 48, 48, 48, 48, 48, 48, 48, 48, 48, 48]⟩ : ByteArray)) (l := a0.data.toList ++ Z) (R := true) (by rw [app_data]; rfl) (app p0 pz) (by rw [List.length_append]; omega) (dig_yes (by rw [dacc_append, f0]; exact Z_c) (by rw [List.length_append]; omega))
  have r2 := f_of (t := ((a0 ++ ba [c]) ++ a1) ++ (⟨#[58, 48, 48, 48, 48, 48, 48, 48, 48, 48, 48, 48, 48, 48, 48, 48, 48, 48, 48, 48, 48, 48, 48, 48, 48, 48, 48, 48, 48, 48, 48, 48, 48]⟩ : ByteArray)) (l := ((a0.data.toList ++ [c]) ++ a1.data.toList) ++ Z) (R := true) (by rw [app_data, app_data, app_data, ba_data]; rfl) (app (app (app p0 pc) p1) pz) (by simp only [List.length_append, List.length_singleton]; omega) (dig_yes (by rw [dacc_append, dfold_append _ _ _ _ ((dfold_append _ _ _ _ f0).trans fc), f1]; exact Z_c) (by simp only [List.length_append]; omega))
  have r3 := f_of (t := (a0 ++ a1) ++ (⟨#[58, 48, 48, 48, 48, 48, 48, 48, 48, 48, 48, 48, 48, 48, 48, 48, 48, 48, 48, 48, 48, 48, 48, 48, 48, 48, 48, 48, 48, 48, 48, 48, 48]⟩ : ByteArray)) (l := (a0.data.toList ++ a1.data.toList) ++ Z) (R := true) (by rw [app_data, app_data]; rfl) (app (app p0 p1) pz) (by simp only [List.length_append]; omega) (dig_yes (by rw [dacc_append, dfold_append _ _ _ _ f0, f1c]; exact Z_c) (by simp only [List.length_append]; omega))
  have r4 := f_of (t := (((a0 ++ ba [c]) ++ ba [c]) ++ a1) ++ (⟨#[58, 48, 48, 48, 48, 48, 48, 48, 48, 48, 48, 48, 48, 48, 48, 48, 48, 48, 48, 48, 48, 48, 48, 48, 48, 48, 48, 48, 48, 48, 48, 48, 48]⟩ : ByteArray)) (l := a0.data.toList ++ ([c, c] ++ (a1.data.toList ++ Z))) (R := false) (by rw [app_data, app_data, app_data, app_data, ba_data, zz]; simp only [List.append_assoc, List.cons_append, List.nil_append]) (app p0 (app (by intro b hb; simp at hb; rcases hb with rfl | rfl <;> exact c3) (app p1 pz))) (by simp only [List.length_append, List.length_cons, List.length_nil]; omega) (dig_no (by rw [dacc_append, f0]; simp only; rw [dacc_append, fcc]))
  have r5 := f_of (t := (ba [c] ++ a1) ++ (⟨#[58, 48, 48, 48, 48, 48, 48, 48, 48, 48, 48, 48, 48, 48, 48, 48, 48, 48, 48, 48, 48, 48, 48, 48, 48, 48, 48, 48, 48, 48, 48, 48, 48]⟩ : ByteArray)) (l := [c] ++ (a1.data.toList ++ Z)) (R := false) (by rw [app_data, app_data, ba_data, zz, List.append_assoc]) (app pc (app p1 pz)) (by simp only [List.length_append, List.length_cons, List.length_nil]; omega) (dig_no (by rw [dacc_append, fbc]))
  have r6 := f_of (t := (a0 ++ ba [c]) ++ (⟨#[58, 48, 48, 48, 48, 48, 48, 48, 48, 48, 48, 48, 48, 48, 48, 48, 48, 48, 48, 48, 48, 48, 48, 48, 48, 48, 48, 48, 48, 48, 48, 48, 48]⟩ : ByteArray)) (l := (a0.data.toList ++ [c]) ++ Z) (R := false) (by rw [app_data, app_data, ba_data]; rfl) (app (app p0 pc) pz) (by simp only [List.length_append, List.length_cons, List.length_nil]; omega) (dig_no (by rw [dacc_append, dfold_append _ _ _ _ f0, fc]; exact Z_b))
  have r7 := f_of (t := (((a0 ++ ba [c]) ++ (⟨#[48]⟩ : ByteArray)) ++ a1) ++ (⟨#[58, 48, 48, 48, 48, 48, 48, 48, 48, 48, 48, 48, 48, 48, 48, 48, 48, 48, 48, 48, 48, 48, 48, 48, 48, 48, 48, 48, 48, 48, 48, 48, 48]⟩ : ByteArray)) (l := (a0.data.toList ++ [c]) ++ ([48] ++ (a1.data.toList ++ Z))) (R := false) (by rw [app_data, app_data, app_data, app_data, ba_data, zz, show ((⟨#[48]⟩ : ByteArray)).data.toList = [48] from rfl]; simp only [List.append_assoc]) (app (app p0 pc) (app (by decide) (app p1 pz))) (by simp only [List.length_append, List.length_cons, List.length_nil]; omega) (dig_no (by rw [dacc_append, dfold_append _ _ _ _ f0, fc]; rfl))
  simp only [r1, r2, r3, r4, r5, r6, r7, Option.bind_some, sc]
  have b1 : ∀ s t : ByteArray, (s ++ t).size = s.size + t.size := fun s t => ByteArray.size_append
  have sz : ((⟨#[48]⟩ : ByteArray)).size = 1 := rfl
  simp only [b1, sc, sz]
  refine Ev.pos (by omega) (Ev.pos (by simp) (Ev.pos (by omega) (Ev.pos (by omega) (Ev.pos (by omega) (Ev.pos (by simp) (Ev.pos (by omega) (Ev.pos (by omega) (Ev.pos (by simp) (Ev.pos (by omega) (Ev.pos (by omega) (Ev.pos (by omega) (Ev.neg (by simp) (Ev.pos (by omega) (Ev.pos (by omega) (Ev.neg (by simp) (Ev.pos (by omega) (Ev.neg (by simp) (Ev.pos (by omega) (Ev.pos (by omega) (Ev.pos (by omega) ?_))))))))))))))))))))
  exact Ev.val _
end Go.Proofs.Ytecokmgminakpaa.H
