/- The plain law of FnSemverCaretInterval. -/
import Derived.Test.YtgenbmhmcnaiiaaDoorHaCaretK14
import Derived.Test.YtgenbmhmcnaiiaaDoorPGx30K14
namespace Go.Proofs.YtgenbmhmcnaiiaaDoor.lawCaretInterval
open Go.RowKit Go.Proofs.YtgenbmhmcnaiiaaDoor.PG Go.Proofs.YtgenbmhmcnaiiaaDoor.H
open Go.Proofs.YtgenbmhmcnaiiaaDoorW.PrintWords hiding Ev Ev.bind
set_option linter.unusedVariables false
set_option linter.unusedSimpArgs false

theorem j0_true (k0 a b c : Int) (p m : ByteArray) (a' b' c' : Int) (p' m' : ByteArray) : Ev (fun k => laws_FnSemverCaretInterval.j0 k k0 true a b c p m a' b' c' p' m') true := by
  refine Ev.succ ?_
  simp only [laws_FnSemverCaretInterval.j0]
  exact Ev.pos (by simp) (Ev.val _)
theorem j1_true (k0 a b c : Int) (p m : ByteArray) (a' b' c' : Int) (p' m' : ByteArray) : Ev (fun k => laws_FnSemverCaretInterval.j1 k k0 true a b c p m a' b' c' p' m') true := by
  refine Ev.succ ?_
  simp only [laws_FnSemverCaretInterval.j1]
  exact Ev.pos (by simp) (Ev.val _)

abbrev E : ByteArray := (⟨#[]⟩ : ByteArray)
/-- The numbers of a term of the first k numbers. -/
def tb (k b : Int) : Int := if k > 1 then b else 0
def tc (k c : Int) : Int := if k > 2 then c else 0

theorem caret_of (k a b c a' b' c' : Int) (ha : 0 ≤ a) (hb : 0 ≤ b) : impl_CaretHolds.f 0 k a (tb k b) (tc k c) E a' b' c' E E false = some (caretTail (k == 1) (k == 2) a' b' c' a (tb k b) (tc k c) (verCmp a' b' c' E a (tb k b) (tc k c) E)) := by
  unfold impl_CaretHolds.f
  rw [if_pos ⟨⟨by decide, by decide⟩, ha, by unfold tb; split <;> omega⟩, caretHolds_bare]
theorem st_of (k a b c : Int) : laws_stTerm.f 0 a b c E E k = some (0, k, a, tb k b, tc k c, E) := by
  unfold laws_stTerm.f tb tc
  congr 1
  by_cases h : k > 2 <;> simp [h, E]
theorem first_of (k a b c : Int) (h1 : 1 ≤ k) (h3 : k ≤ 3) : laws_scFirst.f a b c E E k = some (a, tb k b, tc k c, E, E) := by
  unfold laws_scFirst.f tb tc
  grind

/-- What the law asks, of numbers. -/
theorem core (k a b c a' b' c' n0 n1 n2 : Int) (h1 : 1 ≤ k) (h3 : k ≤ 3) (ha : 0 ≤ a) (hb : 0 ≤ b) (hc : 0 ≤ c) (ha' : 0 ≤ a') (hb' : 0 ≤ b') (hc' : 0 ≤ c')
    (hn : ((0 < a ∨ k = 1) ∧ n0 = a + 1 ∧ n1 = 0 ∧ n2 = 0) ∨ (¬ (0 < a ∨ k = 1) ∧ (0 < b ∨ k = 2) ∧ n0 = 0 ∧ n1 = b + 1 ∧ n2 = 0) ∨ (¬ (0 < a ∨ k = 1) ∧ ¬ (0 < b ∨ k = 2) ∧ n0 = 0 ∧ n1 = 0 ∧ n2 = c + 1)) :
    caretTail (k == 1) (k == 2) a' b' c' a (tb k b) (tc k c) (verCmp a' b' c' E a (tb k b) (tc k c) E) = (decide (0 ≤ verCmp a' b' c' E a (tb k b) (tc k c) E) && decide (verCmp a' b' c' E n0 n1 n2 E < 0)) := by
  rw [Bool.eq_iff_iff, caretTail_iff, Bool.and_eq_true, decide_eq_true_iff, decide_eq_true_iff, ver0_nonneg, ver0_neg]
  have hk : k = 1 ∨ k = 2 ∨ k = 3 := by omega
  unfold tb tc
  rcases hk with rfl | rfl | rfl
  · simp only [show ¬ ((1 : Int) > 1) by omega, show ¬ ((1 : Int) > 2) by omega, if_false, show ((1 : Int) == 1) = true by rfl, show ((1 : Int) == 2) = false by rfl]
    simp only [eq_self, reduceCtorEq, true_and, false_and, and_true, and_false, or_false, false_or, or_true, true_or]
    omega
  · simp only [show ((2 : Int) > 1) by omega, show ¬ ((2 : Int) > 2) by omega, if_false, if_true, show ((2 : Int) == 1) = false by rfl, show ((2 : Int) == 2) = true by rfl]
    simp only [eq_self, reduceCtorEq, true_and, false_and, and_true, and_false, or_false, false_or, or_true, true_or]
    omega
  · simp only [show ((3 : Int) > 1) by omega, show ((3 : Int) > 2) by omega, if_true, show ((3 : Int) == 1) = false by rfl, show ((3 : Int) == 2) = false by rfl]
    simp only [eq_self, reduceCtorEq, true_and, false_and, and_true, and_false, or_false, false_or, or_true, true_or]
    omega
theorem low (k a b c : Int) (h1 : 1 ≤ k) (h3 : k ≤ 3) (ha : 0 ≤ a) (hb : 0 ≤ b) : caretTail (k == 1) (k == 2) a (tb k b) (tc k c) a (tb k b) (tc k c) (verCmp a (tb k b) (tc k c) E a (tb k b) (tc k c) E) = true := by
  rw [caretTail_iff, ver0_nonneg]
  have hk : k = 1 ∨ k = 2 ∨ k = 3 := by omega
  have e1 : ((k == 1) = true ∨ (k == 1) = false) := by cases (k == 1) <;> simp
  have e2 : ((k == 2) = true ∨ (k == 2) = false) := by cases (k == 2) <;> simp
  have hq : 0 ≤ tb k b := by unfold tb; split <;> omega
  generalize tb k b = x at *
  generalize tc k c = y at *
  rcases e1 with e1 | e1 <;> rcases e2 with e2 | e2 <;> rw [e1, e2] <;> simp only [eq_self, reduceCtorEq, true_and, false_and, and_true, and_false, or_false, false_or] <;> omega

theorem j3_ev (k0 a b c a' b' c' n0 n1 n2 : Int) (h1 : 1 ≤ k0) (h3 : k0 ≤ 3) (ha : 0 ≤ a) (hb : 0 ≤ b) (hc : 0 ≤ c) (ha' : 0 ≤ a') (hb' : 0 ≤ b') (hc' : 0 ≤ c')
    (hn : ((0 < a ∨ k0 = 1) ∧ n0 = a + 1 ∧ n1 = 0 ∧ n2 = 0) ∨ (¬ (0 < a ∨ k0 = 1) ∧ (0 < b ∨ k0 = 2) ∧ n0 = 0 ∧ n1 = b + 1 ∧ n2 = 0) ∨ (¬ (0 < a ∨ k0 = 1) ∧ ¬ (0 < b ∨ k0 = 2) ∧ n0 = 0 ∧ n1 = 0 ∧ n2 = c + 1)) :
    Ev (fun k => laws_FnSemverCaretInterval.j3 k k0 a b c E E a' b' c' E E n0 n1 n2 E E) true := by
  have hsz : E.size ≤ 2147483647 := by decide
  have j4 : ∀ x, x = (decide (0 ≤ verCmp a' b' c' E a (tb k0 b) (tc k0 c) E) && decide (verCmp a' b' c' E n0 n1 n2 E < 0)) → Ev (fun k => laws_FnSemverCaretInterval.j4 k k0 x a b c E E a' b' c' E E a (tb k0 b) (tc k0 c) E E) true := by
    intro x hx
    refine Ev.succ ?_
    simp only [laws_FnSemverCaretInterval.j4, st_of, Option.bind_some]
    rw [caret_of k0 a b c a' b' c' ha hb, caret_of k0 a b c a (tb k0 b) (tc k0 c) ha hb, core k0 a b c a' b' c' n0 n1 n2 h1 h3 ha hb hc ha' hb' hc' hn, low k0 a b c h1 h3 ha hb]
    simp only [Option.bind_some]
    exact Ev.pos (by rw [hx]; simp) (Ev.val _)
  refine Ev.succ ?_
  simp only [laws_FnSemverCaretInterval.j3]
  rw [first_of k0 a b c h1 h3]
  simp only [Option.bind_some]
  have hge : impl_VersionGreaterEqual.f a' b' c' E E a (tb k0 b) (tc k0 c) E E = some (decide (0 ≤ verCmp a' b' c' E a (tb k0 b) (tc k0 c) E)) := by
    unfold impl_VersionGreaterEqual.f
    rw [if_pos ⟨hsz, hsz⟩]
  rw [hge, vless_of hsz hsz]
  simp only [Option.bind_some]
  refine Ev.ite (fun e => j4 _ (by rw [e]; simp)) (fun e => j4 _ (by rw [Bool.eq_false_iff.2 e]; simp))

theorem pure (a b c : Int) (p m : ByteArray) (k0 a' b' c' : Int) (p' m' : ByteArray) (ya : u64ok a) (yb : u64ok b) (yc : u64ok c) (yk : i64ok k0) (ya' : u64ok a') (yb' : u64ok b') (yc' : u64ok c') : ∃ k, laws_FnSemverCaretInterval.f k a b c p m k0 a' b' c' p' m' = some true := by
  refine Ev.get (g := fun k => laws_FnSemverCaretInterval.f k a b c p m k0 a' b' c' p' m') ?_
  unfold laws_FnSemverCaretInterval.f
  rw [fits14_ev, fits14_ev]
  simp only [Option.bind_some]
  refine Ev.ite (fun e1 => ?_) (fun _ => j0_true ..)
  cases e2 : fits14 p' m' with
  | false => exact j0_true ..
  | true =>
    refine Ev.succ ?_
    simp only [laws_FnSemverCaretInterval.j0, Bool.not_true, laws_stBare.f, spec_Bare.f, Option.bind_some]
    refine Ev.neg (by simp) ?_
    by_cases hk1 : k0 ≥ 1
    · rw [if_pos hk1]
      simp only [Option.bind_some]
      refine Ev.ite (fun hk3 => ?_) (fun _ => j1_true ..)
      have hk3 : k0 ≤ 3 := by simpa using hk3
      obtain ⟨x, hx, hxx⟩ : ∃ x, laws_scPlus.f a b c E E k0 = some x ∧ (x = true → IntKind.u64.wrap (a + 1) ≠ 0 ∧ (2 ≤ k0 → IntKind.u64.wrap (b + 1) ≠ 0) ∧ (3 ≤ k0 → IntKind.u64.wrap (c + 1) ≠ 0)) := by
        unfold laws_scPlus.f
        generalize IntKind.u64.wrap (a + 1) = x
        generalize IntKind.u64.wrap (b + 1) = y
        generalize IntKind.u64.wrap (c + 1) = z
        split
        · exact ⟨_, rfl, by simp⟩
        · split
          · split
            · exact ⟨_, rfl, fun _ => ⟨by assumption, fun _ => by omega, fun _ => by omega⟩⟩
            · omega
          · split
            · exact ⟨_, rfl, by simp⟩
            · split
              · exact ⟨_, rfl, fun _ => ⟨by assumption, fun _ => by assumption, fun _ => by omega⟩⟩
              · exact ⟨_, rfl, fun h => ⟨by assumption, fun _ => by assumption, fun _ => by simpa using h⟩⟩
      rw [hx]
      simp only [Option.bind_some]
      cases x with
      | false => exact j1_true ..
      | true =>
        obtain ⟨wa, wb, wc⟩ := hxx rfl
        have na := wrap_next ya wa
        have ra := u64_range ya
        have rb := u64_range yb
        have rc := u64_range yc
        have ra' := u64_range ya'
        have rb' := u64_range yb'
        have rc' := u64_range yc'
        have j2 : ∀ x, (x = true ↔ (0 < a ∨ k0 = 1)) → Ev (fun k => laws_FnSemverCaretInterval.j2 k k0 x a b c E E a' b' c' E E 0 0 (IntKind.u64.wrap (c + 1)) E E) true := by
          intro x hx
          refine Ev.succ ?_
          simp only [laws_FnSemverCaretInterval.j2]
          refine Ev.ite (fun e => ?_) (fun e => ?_)
          · exact j3_ev k0 a b c a' b' c' _ _ _ hk1 hk3 ra.1 rb.1 rc.1 ra'.1 rb'.1 rc'.1 (.inl ⟨hx.1 e, na, rfl, rfl⟩)
          · have hna : ¬ (0 < a ∨ k0 = 1) := fun h => e (hx.2 h)
            refine Ev.ite (fun e2 => ?_) (fun e2 => Ev.ite (fun e3 => ?_) (fun e3 => ?_))
            · exact j3_ev k0 a b c a' b' c' _ _ _ hk1 hk3 ra.1 rb.1 rc.1 ra'.1 rb'.1 rc'.1 (.inr (.inl ⟨hna, .inl e2, rfl, wrap_next yb (wb (by omega)), rfl⟩))
            · exact j3_ev k0 a b c a' b' c' _ _ _ hk1 hk3 ra.1 rb.1 rc.1 ra'.1 rb'.1 rc'.1 (.inr (.inl ⟨hna, .inr e3, rfl, wrap_next yb (wb (by omega)), rfl⟩))
            · exact j3_ev k0 a b c a' b' c' _ _ _ hk1 hk3 ra.1 rb.1 rc.1 ra'.1 rb'.1 rc'.1 (.inr (.inr ⟨hna, fun h => h.elim e2 e3, rfl, rfl, wrap_next yc (wc (by omega))⟩))
        refine Ev.succ ?_
        simp only [laws_FnSemverCaretInterval.j1, Bool.not_true]
        refine Ev.neg (by simp) (Ev.ite (fun e => j2 _ ⟨fun _ => .inl e, fun _ => rfl⟩) (fun e => j2 _ ⟨fun h => .inr (by simpa using h), fun h => ?_⟩))
        rcases h with h | h
        · exact absurd h e
        · simpa using h
    · rw [if_neg hk1]
      simp only [Option.bind_some]
      exact Ev.neg (by simp) (j1_true ..)
end Go.Proofs.YtgenbmhmcnaiiaaDoor.lawCaretInterval
