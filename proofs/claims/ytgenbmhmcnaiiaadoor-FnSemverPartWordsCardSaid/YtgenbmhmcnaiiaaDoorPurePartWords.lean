/- The plain law of FnSemverPartWords. -/
import Derived.Test.YtgenbmhmcnaiiaaDoorHaWords
import Derived.Test.YtgenbmhmcnaiiaaDoorPGx11
namespace Go.Proofs.YtgenbmhmcnaiiaaDoor.lawPartWords
open Go.RowKit Go.Proofs.YtgenbmhmcnaiiaaDoor.PG Go.Proofs.YtgenbmhmcnaiiaaDoor.H
open Go.Proofs.YtgenbmhmcnaiiaaDoorW.PrintWords hiding Ev Ev.bind
set_option linter.unusedVariables false
set_option linter.unusedSimpArgs false
set_option linter.unnecessarySimpa false

theorem j0_true (a b c : ByteArray) : Ev (fun k => laws_FnSemverPartWords.j0 k a b c true) true := by
  refine Ev.succ ?_
  simp only [laws_FnSemverPartWords.j0]
  exact Ev.pos (by simp) (Ev.val _)
theorem j1_true (a b c d : ByteArray) : Ev (fun k => laws_FnSemverPartWords.j1 k a b c d true) true := by
  refine Ev.succ ?_
  simp only [laws_FnSemverPartWords.j1]
  exact Ev.pos (by simp) (Ev.val _)

/-- What the law asks of the comparison c, of what stands behind the common beginning. -/
theorem j1_false (x1 x2 A B : ByteArray) (c : Int) (hc : impl_ComparePart.f A B = some c)
    (h0 : x1.data.toList = [] → x2.data.toList = [] → c = 0) (h1 : x1.data.toList = [] → x2.data.toList ≠ [] → c = -1) (h2 : x1.data.toList ≠ [] → x2.data.toList = [] → c = 1)
    (h3 : 0 < x1.size → 0 < x2.size → bt x1 0 < bt x2 0 → c = -1) (h4 : 0 < x1.size → 0 < x2.size → ¬ bt x1 0 < bt x2 0 → c = 1) : Ev (fun k => laws_FnSemverPartWords.j1 k x1 x2 A B false) true := by
  have z1 : x1.data.toList ≠ [] → 0 < x1.size := fun h => by rw [size_eq]; exact List.length_pos_iff.2 h
  have z2 : x2.data.toList ≠ [] → 0 < x2.size := fun h => by rw [size_eq]; exact List.length_pos_iff.2 h
  have tail : ∀ q : Bool, (q = true → x1.data.toList = [] ∧ x2.data.toList = []) → (x1.data.toList = [] → q = false → x2.data.toList ≠ []) → Ev (fun k => laws_FnSemverPartWords.j2 k x1 x2 A B 1 q) true := by
    intro q hq hq'
    refine Ev.succ ?_
    simp only [laws_FnSemverPartWords.j2]
    rw [hc, toList_eq, toList_eq]
    simp only [Option.bind_some]
    refine Ev.ite (fun e => ?_) (fun e => ?_)
    · refine (Ev.val _).eq ?_
      rw [h0 (hq e).1 (hq e).2]; rfl
    · refine Ev.ite (fun e1 => ?_) (fun e1 => ?_)
      · refine (Ev.val _).eq ?_
        rw [h1 e1 (hq' e1 (by simpa using e))]; rfl
      · refine Ev.ite (fun e2 => ?_) (fun e2 => ?_)
        · refine (Ev.val _).eq ?_
          rw [h2 e1 e2]; rfl
        · have p1 := z1 e1
          have p2 := z2 e2
          refine Ev.pos (by omega) (Ev.pos (by omega) ?_)
          refine Ev.ite (fun e3 => ?_) (fun e3 => ?_)
          · refine (Ev.val _).eq ?_
            rw [h3 p1 p2 e3]; rfl
          · refine (Ev.val _).eq ?_
            rw [h4 p1 p2 e3]; rfl
  refine Ev.succ ?_
  simp only [laws_FnSemverPartWords.j1]
  refine Ev.neg (by simp) ?_
  rw [toList_eq, toList_eq]
  refine Ev.ite (fun e => tail _ (fun q => ⟨e, by simpa using q⟩) (fun _ q => ?_)) (fun e => tail _ (fun q => by cases q) (fun a _ => absurd a e))
  intro h
  rw [h] at q
  simp at q

theorem head_bt {s : ByteArray} (h : 0 < s.size) : ∃ b r, s.data.toList = b :: r ∧ bt s 0 = (b.toNat : Int) := by
  obtain ⟨hh, hb⟩ := bt_data s 0 h
  have hb' : bt s 0 = (s.data.toList[0].toNat : Int) := hb
  cases hl : s.data.toList with
  | nil => rw [hl] at hh; simp at hh
  | cons b r =>
    refine ⟨b, r, rfl, ?_⟩
    rw [hb']
    simp only [hl, List.getElem_cons_zero]

theorem main (x0 x1 x2 : ByteArray) (h0 : x0.size ≤ 2147483647) (h1 : x1.size ≤ 2147483647) (h2 : x2.size ≤ 2147483647) : Ev (fun k => laws_FnSemverPartWords.j0 k x0 x1 x2 false) true := by
  have s1 : (x0 ++ x1).size = x0.size + x1.size := ByteArray.size_append
  have s2 : (x0 ++ x2).size = x0.size + x2.size := ByteArray.size_append
  refine Ev.succ ?_
  simp only [laws_FnSemverPartWords.j0]
  refine Ev.neg (by simp) (Ev.pos (by omega) (Ev.pos (by omega) ?_))
  refine Ev.bind (svIdent_ev (x0 ++ x1) (by omega)) (Ev.ite (fun e1 => ?_) (fun _ => j1_true _ _ _ _))
  refine Ev.bind (svIdent_ev (x0 ++ x2) (by omega)) (Ev.ite (fun e2 => ?_) (fun _ => j1_true _ _ _ _))
  refine Ev.bind (digits_ev (x0 ++ x1) (by omega)) (Ev.ite (fun _ => j1_true _ _ _ _) (fun d1 => ?_))
  refine Ev.bind (digits_ev (x0 ++ x2) (by omega)) (Ev.ite (fun _ => j1_true _ _ _ _) (fun d2 => ?_))
  simp only [Bool.and_eq_true, decide_eq_true_eq] at e1 e2
  have hc := part_words e1.1.1.1 e2.1.1.1 e1.1.1.2 e2.1.1.2 d1 d2
  rw [data_append, data_append] at hc
  have fin : ∀ q : Bool, (0 < x1.size → 0 < x2.size → bt x1 0 ≠ bt x2 0) → Ev (fun k => laws_FnSemverPartWords.j1 k x1 x2 (x0 ++ x1) (x0 ++ x2) false) true := by
    intro q hne
    refine j1_false x1 x2 _ _ _ hc ?_ ?_ ?_ ?_ ?_
    · intro a b
      rw [a, b]; simp [wordCmp]
    · intro a b
      unfold wordCmp
      rw [a, if_neg (fun h => b (List.append_cancel_left h).symm)]
      rw [less_append]
      cases hx : x2.data.toList with
      | nil => exact absurd hx b
      | cons c r => rfl
    · intro a b
      unfold wordCmp
      rw [b, if_neg (fun h => a (List.append_cancel_left h)), less_append, less_nil]
      rfl
    · intro p1 p2 hlt
      obtain ⟨b1, r1, l1, t1⟩ := head_bt p1
      obtain ⟨b2, r2, l2, t2⟩ := head_bt p2
      rw [t1, t2] at hlt
      have hb : b1 ≠ b2 := fun h => by rw [h] at hlt; omega
      unfold wordCmp
      rw [l1, l2, if_neg (by simpa using fun h => absurd h hb), less_append, less_head hb, if_pos (by simp; omega)]
    · intro p1 p2 hlt
      have hn := hne p1 p2
      obtain ⟨b1, r1, l1, t1⟩ := head_bt p1
      obtain ⟨b2, r2, l2, t2⟩ := head_bt p2
      rw [t1, t2] at hlt hn
      have hb : b1 ≠ b2 := fun h => hn (by rw [h])
      unfold wordCmp
      rw [l1, l2, if_neg (by simpa using fun h => absurd h hb), less_append, less_head hb, if_neg (by simp; omega)]
  have e1' : ∀ s : ByteArray, s.data.toList = [] → ¬ 0 < s.size := fun s h => by rw [size_eq, h]; simp
  rw [toList_eq, toList_eq]
  refine Ev.ite (fun e => fin true (fun p _ => absurd p (e1' _ e))) (fun n1 => ?_)
  refine Ev.ite (fun e => fin true (fun _ p => absurd p (e1' _ e))) (fun n2 => ?_)
  have p1 : 0 < x1.size := by rw [size_eq]; exact List.length_pos_iff.2 n1
  have p2 : 0 < x2.size := by rw [size_eq]; exact List.length_pos_iff.2 n2
  refine Ev.pos (by omega) (Ev.pos (by omega) ?_)
  cases hq : (bt x1 0 == bt x2 0) with
  | true => exact j1_true _ _ _ _
  | false => exact fin true (fun _ _ => by simpa using hq)

def Pure : Prop := ∀ (a0 a1 a2 : ByteArray), a0.size ≤ 140737488351232 → a1.size ≤ 140737488351232 → a2.size ≤ 140737488351232 → ∃ k, laws_FnSemverPartWords.f k a0 a1 a2 = some true
theorem pure : Pure := by
  intro a0 a1 a2 _ _ _
  refine Ev.get (g := fun k => laws_FnSemverPartWords.f k a0 a1 a2) ?_
  unfold laws_FnSemverPartWords.f
  refine Ev.ite (fun _ => j0_true _ _ _) (fun h0 => Ev.ite (fun _ => j0_true _ _ _) (fun h1 => ?_))
  cases hq : decide ((a2.size : Int) > 2147483647) with
  | true => exact j0_true _ _ _
  | false =>
    have : ¬ (a2.size : Int) > 2147483647 := by simpa using hq
    exact main a0 a1 a2 (by omega) (by omega) (by omega)
end Go.Proofs.YtgenbmhmcnaiiaaDoor.lawPartWords
