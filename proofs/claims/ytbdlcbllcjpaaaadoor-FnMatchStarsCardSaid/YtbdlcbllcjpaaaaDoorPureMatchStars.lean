/- The law of stars, plainly: what the printed law comes to is true of every three texts. -/
import Derived.Test.YtbdlcbllcjpaaaaDoorPGx2
namespace Go.Proofs.YtbdlcbllcjpaaaaDoor.H
open Go.RowKit Go.Proofs.YtbdlcbllcjpaaaaDoorW.PrintWords Go.Proofs.YtbdlcbllcjpaaaaDoor.PG
set_option linter.unusedVariables false
set_option linter.unusedSimpArgs false
set_option linter.unnecessarySimpa false

def plainB (b : UInt8) : Bool := decide (b.toNat < 128)
theorem plain_ev (s : ByteArray) (hs : s.size ≤ 9223372036854775807) : Ev (fun k => laws_refPlain.f k s) (s.data.toList.all plainB) := by
  unfold laws_refPlain.f
  have key : Ev (fun k => laws_refPlain.l0 k s 0) (s.data.toList.all plainB && true) := by
    refine all_loop (L := fun k i => laws_refPlain.l0 k s i) ?_ ?_
    · refine Ev.succ ?_
      simp only [laws_refPlain.l0]
      exact Ev.neg (by rw [size_eq]; omega) (Ev.val _)
    · intro i h
      have hi : i < s.size := by rw [size_eq]; exact h
      obtain ⟨hh, hb⟩ := bt_data s i hi
      constructor
      · intro hp v hv
        refine Ev.succ ?_
        simp only [laws_refPlain.l0]
        refine Ev.pos (by omega) (Ev.pos (by omega) ?_)
        rw [hb, wrap1 hi hs]
        have := of_decide_eq_true hp
        exact Ev.neg (by omega) hv
      · intro hp
        refine Ev.succ ?_
        simp only [laws_refPlain.l0]
        refine Ev.pos (by omega) (Ev.pos (by omega) ?_)
        rw [hb]
        have := of_decide_eq_false hp
        exact Ev.pos (by omega) (Ev.val _)
  simpa using key

/-- What the law asks of the name and the two parts of the pattern. -/
def asked (n p q : ByteArray) : Bool := p.data.toList.all plainB && (q.data.toList.all plainB && (decide (n.size + p.size + q.size ≤ 200) && (!n.data.toList.isEmpty && n.data.toList.all plainB)))
theorem wrap_id {n : Int} (h1 : 0 ≤ n) (h2 : n ≤ 9223372036854775807) : wrap64 n = n := by unfold wrap64; omega
theorem asked_ev (n p q : ByteArray) (hn : n.size ≤ 2147483647) (hp : p.size ≤ 2147483647) (hq : q.size ≤ 2147483647) : Ev (fun k => laws_matchAsked.f k n [p, q]) (asked n p q) := by
  unfold laws_matchAsked.f asked
  refine Ev.succ ?_
  simp only [laws_matchAsked.l0]
  refine Ev.pos (by simp) (Ev.pos (by omega) (Ev.pos (by simp) ?_))
  have r0 : rdOf ByteArray.empty [p, q] 0 = p := rfl
  have r1 : rdOf ByteArray.empty [p, q] 1 = q := rfl
  rw [r0, wrap_id (n := (n.size : Int) + (p.size : Int)) (by omega) (by omega)]
  refine Ev.bind (plain_ev p (by omega)) ?_
  refine Ev.ite (fun h => ?_) (fun h => ?_)
  · rw [h, Bool.true_and]
    refine Ev.succ ?_
    rw [show wrap64 (0 + 1) = 1 from by unfold wrap64; omega]
    simp only [laws_matchAsked.l0]
    refine Ev.pos (by simp) (Ev.pos (by omega) (Ev.pos (by simp) ?_))
    rw [r1, wrap_id (n := (n.size : Int) + (p.size : Int) + (q.size : Int)) (by omega) (by omega), show wrap64 (1 + 1) = 2 from by unfold wrap64; omega]
    refine Ev.bind (plain_ev q (by omega)) ?_
    refine Ev.ite (fun h => ?_) (fun h => ?_)
    · rw [h, Bool.true_and]
      refine Ev.succ ?_
      simp only [laws_matchAsked.l0]
      refine Ev.neg (by simp) ?_
      refine Ev.ite (fun h => ?_) (fun h => ?_)
      · rw [decide_eq_true (by omega : n.size + p.size + q.size ≤ 200), Bool.true_and]
        refine Ev.ite (fun h => ?_) (fun h => ?_)
        · rw [toList_eq] at h
          rw [h]
          exact Ev.val _
        · rw [toList_eq] at h
          rw [show n.data.toList.isEmpty = false from List.isEmpty_eq_false_iff.2 h]
          exact Ev.bind (plain_ev n (by omega)) (Ev.val _)
      · rw [decide_eq_false (by omega : ¬ n.size + p.size + q.size ≤ 200), Bool.false_and]
        exact Ev.val _
    · rw [Bool.not_eq_true] at h
      rw [h, Bool.false_and]
      exact Ev.val _
  · rw [Bool.not_eq_true] at h
    rw [h, Bool.false_and]
    exact Ev.val _

/-- A text with a backslash ahead of some bytes. -/
def qn (sp : UInt8 → Bool) (l : List UInt8) : List Int := l.flatMap (fun b => if sp b then [92, (b.toNat : Int)] else [(b.toNat : Int)])
theorem qn_len (sp : UInt8 → Bool) (l : List UInt8) : (qn sp l).length = l.length + l.countP sp := by
  induction l with
  | nil => rfl
  | cons c l ih =>
    have e : qn sp (c :: l) = (if sp c then [92, (c.toNat : Int)] else [(c.toNat : Int)]) ++ qn sp l := rfl
    rw [e, List.length_append, ih, List.countP_cons]
    cases sp c <;> simp <;> omega
def sp4 (b : UInt8) : Bool := decide (b = 42) || (decide (b = 63) || (decide (b = 91) || decide (b = 92)))
def sp2 (b : UInt8) : Bool := decide (b = 42) || decide (b = 63)
theorem qn_step (sp : UInt8 → Bool) (l : List UInt8) (i : Nat) (h : i < l.length) : qn sp (l.take (i + 1)) = qn sp (l.take i) ++ (if sp l[i] then [92, (l[i].toNat : Int)] else [(l[i].toNat : Int)]) := by
  rw [List.take_succ_eq_append_getElem h]
  unfold qn
  rw [List.flatMap_append]
  simp
theorem qn_bound (sp : UInt8 → Bool) (l : List UInt8) (i : Nat) : (qn sp (l.take i)).length ≤ 2 * l.length := by
  rw [qn_len]
  have h1 : (l.take i).length ≤ l.length := by rw [List.length_take]; omega
  have h2 := List.countP_le_length (p := sp) (l := l.take i)
  omega
theorem quoted_l0 (s : ByteArray) (hs : s.size ≤ 2147483647) : ∀ (j i : Nat), s.data.toList.length - i = j → i ≤ s.data.toList.length →
    Ev (fun k => laws_refQuoted.l0 k s (qn sp4 (s.data.toList.take i)) (i : Int)) (strOfNums (qn sp4 s.data.toList)) := by
  intro j
  induction j with
  | zero =>
    intro i hj hi
    have : i = s.data.toList.length := by omega
    subst this
    refine Ev.succ ?_
    simp only [laws_refQuoted.l0]
    rw [List.take_length]
    exact Ev.neg (by rw [size_eq]; omega) (Ev.val _)
  | succ j ih =>
    intro i hj hi
    have hlt : i < s.data.toList.length := by omega
    have hi' : i < s.size := by rw [size_eq]; exact hlt
    obtain ⟨hh, hb⟩ := bt_data s i hi'
    have next := ih (i + 1) (by omega) (by omega)
    have hl := qn_bound sp4 s.data.toList i
    have hsz := size_eq s
    rw [qn_step sp4 _ i hlt] at next
    refine Ev.succ ?_
    simp only [laws_refQuoted.l0, hb]
    rw [wrap1 hi' (by omega)]
    refine Ev.pos (by omega) (Ev.pos (by omega) ?_)
    generalize s.data.toList[i] = b at *
    have yes : sp4 b = true → Ev (fun k => if (qn sp4 (s.data.toList.take i)).length < 140737488355328 then ((some (qn sp4 (s.data.toList.take i) ++ [92] : List Int)).bind fun y => (if y.length < 140737488355328 then (laws_refQuoted.l0 k s (y ++ [(b.toNat : Int)]) ((i + 1 : Nat) : Int)) else none)) else none) (strOfNums (qn sp4 s.data.toList)) := by
      intro hsp
      refine Ev.pos (by omega) ?_
      simp only [Option.bind_some]
      refine Ev.pos (by rw [List.length_append]; simp; omega) ?_
      rw [if_pos hsp] at next
      rw [List.append_assoc]
      exact next
    have no : sp4 b = false → Ev (fun k => if (qn sp4 (s.data.toList.take i)).length < 140737488355328 then laws_refQuoted.l0 k s (qn sp4 (s.data.toList.take i) ++ [(b.toNat : Int)]) ((i + 1 : Nat) : Int) else none) (strOfNums (qn sp4 s.data.toList)) := by
      intro hsp
      rw [hsp] at next
      exact Ev.pos (by omega) next
    refine Ev.ite (fun h => yes ?_) (fun h1 => Ev.ite (fun h => yes ?_) (fun h2 => Ev.ite (fun h => yes ?_) (fun h3 => Ev.ite (fun h => yes ?_) (fun h4 => no ?_))))
    · rw [show b = 42 from u8_inj.1 h]; rfl
    · rw [show b = 63 from u8_inj.1 h]; rfl
    · rw [show b = 91 from u8_inj.1 h]; rfl
    · rw [show b = 92 from u8_inj.1 h]; rfl
    · have g1 : b ≠ 42 := fun e => h1 (by rw [e]; rfl)
      have g2 : b ≠ 63 := fun e => h2 (by rw [e]; rfl)
      have g3 : b ≠ 91 := fun e => h3 (by rw [e]; rfl)
      have g4 : b ≠ 92 := fun e => h4 (by rw [e]; rfl)
      simp [sp4, g1, g2, g3, g4]
theorem quoted_ev (s : ByteArray) (hs : s.size ≤ 2147483647) : Ev (fun k => laws_refQuoted.f k s) (strOfNums (qn sp4 s.data.toList)) := quoted_l0 s hs _ 0 rfl (by omega)
theorem starless_l0 (s : ByteArray) (hs : s.size ≤ 2147483647) : ∀ (j i : Nat), s.data.toList.length - i = j → i ≤ s.data.toList.length →
    Ev (fun k => laws_starless.l0 k s (qn sp2 (s.data.toList.take i)) (i : Int)) (strOfNums (qn sp2 s.data.toList)) := by
  intro j
  induction j with
  | zero =>
    intro i hj hi
    have : i = s.data.toList.length := by omega
    subst this
    refine Ev.succ ?_
    simp only [laws_starless.l0]
    rw [List.take_length]
    exact Ev.neg (by rw [size_eq]; omega) (Ev.val _)
  | succ j ih =>
    intro i hj hi
    have hlt : i < s.data.toList.length := by omega
    have hi' : i < s.size := by rw [size_eq]; exact hlt
    obtain ⟨hh, hb⟩ := bt_data s i hi'
    have next := ih (i + 1) (by omega) (by omega)
    have hl := qn_bound sp2 s.data.toList i
    have hsz := size_eq s
    rw [qn_step sp2 _ i hlt] at next
    refine Ev.succ ?_
    simp only [laws_starless.l0, hb]
    rw [wrap1 hi' (by omega)]
    refine Ev.pos (by omega) (Ev.pos (by omega) ?_)
    generalize s.data.toList[i] = b at *
    have yes : sp2 b = true → Ev (fun k => if (qn sp2 (s.data.toList.take i)).length < 140737488355328 then ((some (qn sp2 (s.data.toList.take i) ++ [92] : List Int)).bind fun y => (if y.length < 140737488355328 then (laws_starless.l0 k s (y ++ [(b.toNat : Int)]) ((i + 1 : Nat) : Int)) else none)) else none) (strOfNums (qn sp2 s.data.toList)) := by
      intro hsp
      refine Ev.pos (by omega) ?_
      simp only [Option.bind_some]
      refine Ev.pos (by rw [List.length_append]; simp; omega) ?_
      rw [if_pos hsp] at next
      rw [List.append_assoc]
      exact next
    have no : sp2 b = false → Ev (fun k => if (qn sp2 (s.data.toList.take i)).length < 140737488355328 then laws_starless.l0 k s (qn sp2 (s.data.toList.take i) ++ [(b.toNat : Int)]) ((i + 1 : Nat) : Int) else none) (strOfNums (qn sp2 s.data.toList)) := by
      intro hsp
      rw [hsp] at next
      exact Ev.pos (by omega) next
    refine Ev.ite (fun h => yes ?_) (fun h1 => Ev.ite (fun h => yes ?_) (fun h2 => no ?_))
    · rw [show b = 42 from u8_inj.1 h]; rfl
    · rw [show b = 63 from u8_inj.1 h]; rfl
    · have g1 : b ≠ 42 := fun e => h1 (by rw [e]; rfl)
      have g2 : b ≠ 63 := fun e => h2 (by rw [e]; rfl)
      simp [sp2, g1, g2]
theorem starless_ev (s : ByteArray) (hs : s.size ≤ 2147483647) : Ev (fun k => laws_starless.f k s) (strOfNums (qn sp2 s.data.toList)) := starless_l0 s hs _ 0 rfl (by omega)
/-- A text that is quoted like a text without brackets and backslashes has none. -/
theorem noB_of {l : List UInt8} (h : (strOfNums (qn sp4 l)).toList = (strOfNums (qn sp2 l)).toList) : NoB l := by
  have hl := congrArg List.length h
  rw [toList_eq, toList_eq, strOfNums_data, strOfNums_data, List.length_map, List.length_map, qn_len, qn_len] at hl
  have hc : l.countP sp4 = l.countP sp2 := by omega
  clear h hl
  have main : ∀ l : List UInt8, l.countP sp2 ≤ l.countP sp4 ∧ (l.countP sp4 = l.countP sp2 → NoB l) := by
    intro l
    induction l with
    | nil => exact ⟨Nat.le_refl _, fun _ b hb => by cases hb⟩
    | cons c l ih =>
      rw [List.countP_cons, List.countP_cons]
      have h2 : sp2 c = true → sp4 c = true := by
        intro h
        simp only [sp2, sp4, Bool.or_eq_true, decide_eq_true_eq] at h ⊢
        rcases h with h | h <;> simp [h]
      by_cases h91 : c = 91 ∨ c = 92
      · have e4 : sp4 c = true := by rcases h91 with rfl | rfl <;> rfl
        have e2 : sp2 c = false := by rcases h91 with rfl | rfl <;> rfl
        rw [e4, e2]
        simp only [if_true, Bool.false_eq_true, if_false]
        exact ⟨by omega, fun h => by omega⟩
      · have e : sp4 c = sp2 c := by
          rw [not_or] at h91
          simp [sp4, sp2, h91.1, h91.2]
        rw [e]
        refine ⟨by omega, fun h b hb => ?_⟩
        rcases List.mem_cons.1 hb with rfl | hb
        · exact not_or.1 h91
        · exact ih.2 (by omega) b hb
  exact (main l).2 hc

theorem glob_more {p q : List UInt8} (h : ∀ s, glob p s = true → glob q s = true) : ∀ (c s : List UInt8), glob (c ++ p) s = true → glob (c ++ q) s = true := by
  intro c
  induction c with
  | nil => exact h
  | cons d c ih =>
    intro s
    rw [List.cons_append, List.cons_append, glob, glob]
    split
    · intro hs
      obtain ⟨a, u, rfl, ha, hu⟩ := anyTail_iff.1 hs
      exact anyTail_iff.2 ⟨a, u, rfl, ha, ih u hu⟩
    · cases s with
      | nil => exact fun h => h
      | cons x s =>
        intro hs
        simp only [Bool.and_eq_true] at hs ⊢
        exact ⟨hs.1, ih s hs.2⟩

theorem name_ev (p n : List UInt8) (h : askd p n = true) : laws_matchName.f (ba p) (ba n) = some (glob p n, true) := by
  unfold laws_matchName.f
  rw [ba_data, ba_data, if_pos h]
theorem app_ba (s t : ByteArray) : s ++ t = ba (s.data.toList ++ t.data.toList) := by
  apply eq_of_data
  rw [ba_data]
  simp
theorem pure (a0 a1 a2 : ByteArray) : ∃ k, laws_FnMatchStars.f k a0 a1 a2 = some true := by
  refine Ev.get (g := fun k => laws_FnMatchStars.f k a0 a1 a2) ?_
  unfold laws_FnMatchStars.f
  have big : Ev (fun k => laws_FnMatchStars.j0 k a0 a1 a2 true) true := by
    refine Ev.succ ?_
    simp only [laws_FnMatchStars.j0]
    exact Ev.pos (by simp) (Ev.val _)
  refine Ev.ite (fun _ => big) (fun h0 => Ev.ite (fun _ => big) (fun h1 => ?_))
  by_cases h2 : (a2.size : Int) > 2147483647
  · rw [decide_eq_true h2]
    exact big
  rw [decide_eq_false h2]
  have skip : Ev (fun k => laws_FnMatchStars.j1 k a0 a1 a2 true) true := by
    refine Ev.succ ?_
    simp only [laws_FnMatchStars.j1]
    exact Ev.pos (by simp) (Ev.val _)
  refine Ev.succ ?_
  simp only [laws_FnMatchStars.j0]
  refine Ev.neg (by simp) (Ev.bind (asked_ev a2 a0 a1 (by omega) (by omega) (by omega)) (Ev.ite (fun ha => ?_) (fun _ => skip)))
  refine Ev.bind (quoted_ev a0 (by omega)) (Ev.bind (starless_ev a0 (by omega)) (Ev.ite (fun hq0 => ?_) (fun _ => skip)))
  refine Ev.bind (quoted_ev a1 (by omega)) (Ev.bind (starless_ev a1 (by omega)) ?_)
  by_cases hq1 : ¬ (strOfNums (qn sp4 a1.data.toList)).toList = (strOfNums (qn sp2 a1.data.toList)).toList
  · rw [bne_iff_ne.2 hq1]
    exact skip
  rw [Decidable.not_not] at hq1
  rw [hq1, bne_self_eq_false]
  have hb0 := noB_of hq0
  have hb1 := noB_of hq1
  simp only [asked, Bool.and_eq_true, decide_eq_true_eq, Bool.not_eq_true'] at ha
  obtain ⟨hp0, hp1, hsum, hne, hpn⟩ := ha
  have sz0 := size_eq a0
  have sz1 := size_eq a1
  have sz2 := size_eq a2
  have ask : ∀ m : List UInt8, NoB m → m.length ≤ 10 → askd (a0.data.toList ++ (m ++ a1.data.toList)) a2.data.toList = true := by
    intro m hm hml
    simp only [askd, Bool.and_eq_true, List.all_eq_true, Bool.not_eq_true', decide_eq_true_eq, bne_iff_ne, List.length_append]
    refine ⟨⟨⟨⟨fun b hb => ?_, fun b hb => ?_⟩, hne⟩, by omega⟩, by omega⟩
    · rcases List.mem_append.1 hb with h | h
      · exact hb0 b h
      · rcases List.mem_append.1 h with h | h
        · exact hm b h
        · exact hb1 b h
    · exact of_decide_eq_true (List.all_eq_true.1 hpn b hb)
  have e1 : (a0 ++ (⟨#[42]⟩ : ByteArray)) ++ a1 = ba (a0.data.toList ++ ([42] ++ a1.data.toList)) := by
    rw [app_ba, app_ba, ba_data]
    simp
  have e2 : (a0 ++ (⟨#[42, 42]⟩ : ByteArray)) ++ a1 = ba (a0.data.toList ++ ([42, 42] ++ a1.data.toList)) := by
    rw [app_ba, app_ba, ba_data]
    simp
  have e3 : a0 ++ a1 = ba (a0.data.toList ++ ([] ++ a1.data.toList)) := by
    rw [app_ba]
    simp
  have n1 := name_ev _ _ (ask [42] (by intro b hb; simp at hb; subst hb; decide) (by simp))
  have n2 := name_ev _ _ (ask [42, 42] (by intro b hb; simp at hb; subst hb; decide) (by simp))
  have n3 := name_ev _ _ (ask [] (by intro b hb; cases hb) (by simp))
  have g12 : glob (a0.data.toList ++ ([42, 42] ++ a1.data.toList)) a2.data.toList = glob (a0.data.toList ++ ([42] ++ a1.data.toList)) a2.data.toList := by
    refine bool_iff ⟨glob_more (fun s h => ?_) _ _, glob_more (fun s h => ?_) _ _⟩
    · show glob (42 :: a1.data.toList) s = true
      rw [← glob_stars]; exact h
    · show glob (42 :: 42 :: a1.data.toList) s = true
      rw [glob_stars]; exact h
  have g31 : glob (a0.data.toList ++ ([] ++ a1.data.toList)) a2.data.toList = true → glob (a0.data.toList ++ ([42] ++ a1.data.toList)) a2.data.toList = true := by
    refine glob_more (fun s h => ?_) _ _
    show glob (42 :: a1.data.toList) s = true
    rw [glob_star]
    exact anyTail_at h
  refine Ev.succ ?_
  simp only [laws_FnMatchStars.j1]
  have s1 : (a0 ++ (⟨#[42]⟩ : ByteArray)).size = a0.size + 1 := by rw [ByteArray.size_append]; rfl
  have s2 : (a0 ++ (⟨#[42, 42]⟩ : ByteArray)).size = a0.size + 2 := by rw [ByteArray.size_append]; rfl
  rw [s1, s2, e1, e2, e3, ← ba_of a2, n1, n2, n3]
  refine Ev.neg (by simp) (Ev.pos (by omega) (Ev.pos (by omega) ?_))
  simp only [Option.bind_some]
  refine Ev.pos (by omega) (Ev.pos (by omega) (Ev.pos (by omega) (Ev.pos (by simp) (Ev.pos (by simp) (Ev.pos (by simp) (Ev.pos ?_ ?_))))))
  · rw [g12]
    simp
  · refine Ev.ite (fun h => ?_) (fun _ => Ev.val _)
    rw [g31 h]
    exact Ev.val _
end Go.Proofs.YtbdlcbllcjpaaaaDoor.H
