/- The plain law of FnSemverTermCaret. -/
import Derived.Test.YtgenbmhmcnaiiaaDoorHaCaretKN
import Derived.Test.YtgenbmhmcnaiiaaDoorHaCheckCKN
import Derived.Test.YtgenbmhmcnaiiaaDoorPGx32CKN
namespace Go.Proofs.YtgenbmhmcnaiiaaDoor.lawTermCaret
open Go.RowKit Go.Proofs.YtgenbmhmcnaiiaaDoor.PG Go.Proofs.YtgenbmhmcnaiiaaDoor.H
open Go.Proofs.YtgenbmhmcnaiiaaDoorW.PrintWords hiding Ev Ev.bind
set_option linter.unusedVariables false
set_option linter.unusedSimpArgs false

theorem j0_true (k0 a b c : Int) (p m : ByteArray) (a' b' c' : Int) (p' m' : ByteArray) : Ev (fun k => laws_FnSemverTermCaret.j0 k k0 true a b c p m a' b' c' p' m') true := by
  refine Ev.succ ?_
  simp only [laws_FnSemverTermCaret.j0]
  exact Ev.pos (by simp) (Ev.val _)
theorem j1_true (k0 a b c : Int) (p m : ByteArray) (a' b' c' : Int) (p' m' : ByteArray) : Ev (fun k => laws_FnSemverTermCaret.j1 k k0 true a b c p m a' b' c' p' m') true := by
  refine Ev.succ ?_
  simp only [laws_FnSemverTermCaret.j1]
  exact Ev.pos (by simp) (Ev.val _)

abbrev E : ByteArray := (⟨#[]⟩ : ByteArray)
/-- The numbers of a term of the first k numbers. -/
def tb (k b : Int) : Int := if k > 1 then b else 0
def tc (k c : Int) : Int := if k > 2 then c else 0

theorem st_of7 (o k a b c : Int) : laws_stTerm.f o a b c E E k = some (o, k, a, tb k b, tc k c, E) := by
  unfold laws_stTerm.f tb tc
  congr 1
  by_cases h : k > 2 <;> simp [h, E]
theorem st7 (k a b c a' b' c' : Int) (ha : 0 ≤ a) (hb : 0 ≤ b) : laws_stHolds.f 7 a b c E E k a' b' c' E E = some (caretTail (k == 1) (k == 2) a' b' c' a (tb k b) (tc k c) (verCmp a' b' c' E a (tb k b) (tc k c) E)) := by
  unfold laws_stHolds.f
  rw [st_of7]
  simp only [Option.bind_some]
  unfold impl_TermHolds.f
  rw [if_pos ⟨⟨by decide, by decide⟩, known7, ha, by unfold tb; split <;> omega⟩, holds7]
  simp only [Option.bind_some]
  unfold caretHolds
  simp
theorem st4 (k a b c a' b' c' : Int) (ha : 0 ≤ a) (hb : 0 ≤ b) : laws_stHolds.f 4 a b c E E k a' b' c' E E = some (decide (0 ≤ verCmp a' b' c' E a (tb k b) (tc k c) E)) := by
  unfold laws_stHolds.f
  rw [st_of7]
  simp only [Option.bind_some]
  unfold impl_TermHolds.f
  rw [if_pos ⟨⟨by decide, by decide⟩, known4, ha, by unfold tb; split <;> omega⟩, holds4]
  simp only [Option.bind_some]
  unfold geHolds
  simp
theorem st3 (n0 n1 n2 a' b' c' : Int) (h0 : 0 ≤ n0) (h1 : 0 ≤ n1) : laws_stHolds.f 3 n0 n1 n2 E E 3 a' b' c' E E = some (decide (verCmp a' b' c' E n0 n1 n2 E < 0)) := by
  unfold laws_stHolds.f
  rw [st_of7]
  simp only [Option.bind_some]
  unfold impl_TermHolds.f
  have e1 : tb 3 n1 = n1 := by unfold tb; simp
  have e2 : tc 3 n2 = n2 := by unfold tc; simp
  rw [e1, e2, if_pos ⟨⟨by decide, by decide⟩, known3, h0, h1⟩, holds3]
  simp only [Option.bind_some]
  unfold ltHolds
  simp
theorem first_of (k a b c : Int) (h1 : 1 ≤ k) (h3 : k ≤ 3) : laws_scFirst.f a b c E E k = some (a, tb k b, tc k c, E, E) := by
  unfold laws_scFirst.f tb tc
  grind

/-- What the law asks, of numbers. -/
theorem core (k a b c a' b' c' n0 n1 n2 : Int) (h1 : 1 ≤ k) (h3 : k ≤ 3) (ha : 0 ≤ a) (hb : 0 ≤ b) (hc : 0 ≤ c) (ha' : 0 ≤ a') (hb' : 0 ≤ b') (hc' : 0 ≤ c')
    (hn : ((0 < a ∨ k = 1) ∧ n0 = a + 1 ∧ n1 = 0 ∧ n2 = 0) ∨ (¬ (0 < a ∨ k = 1) ∧ (0 < b ∨ k = 2) ∧ n0 = 0 ∧ n1 = b + 1 ∧ n2 = 0) ∨ (¬ (0 < a ∨ k = 1) ∧ ¬ (0 < b ∨ k = 2) ∧ n0 = 0 ∧ n1 = 0 ∧ n2 = c + 1)) :
    caretTail (k == 1) (k == 2) a' b' c' a (tb k b) (tc k c) (verCmp a' b' c' E a (tb k b) (tc k c) E) = (decide (0 ≤ verCmp a' b' c' E a (tb k b) (tc k c) E) && decide (verCmp a' b' c' E n0 n1 n2 E < 0)) := by
  rw [Bool.eq_iff_iff, caretTail_iff, Bool.and_eq_true, decide_eq_true_iff, decide_eq_true_iff, ver0_nonneg, ver0_neg]
  have hk : k = 1 ∨ k = 2 ∨ k = 3 := by omega
  unfold tb tc
  rcases hk with rfl | rfl | rfl
  · simp only [show ¬ ((1 : Int) > 1) by omega, show ¬ ((1 : Int) > 2) by omega, if_false, show ((1 : Int) == 1) = true by rfl, show ((1 : Int) == 2) = false by rfl]
    simp only [eq_self, reduceCtorEq, true_and, false_and, and_true, and_false, or_false, false_or, or_true, true_or]
    omega
  · simp only [show ((2 : Int) > 1) by omega, show ¬ ((2 : Int) > 2) by omega, if_false, if_true, show ((2 : Int) == 1) = false by rfl, show ((2 : Int) == 2) = true by rfl]
    simp only [eq_self, reduceCtorEq, true_and, false_and, and_true, and_false, or_false, false_or, or_true, true_or]
    omega
  · simp only [show ((3 : Int) > 1) by omega, show ((3 : Int) > 2) by omega, if_true, show ((3 : Int) == 1) = false by rfl, show ((3 : Int) == 2) = false by rfl]
    simp only [eq_self, reduceCtorEq, true_and, false_and, and_true, and_false, or_false, false_or, or_true, true_or]
    omega
theorem low (k a b c : Int) (h1 : 1 ≤ k) (h3 : k ≤ 3) (ha : 0 ≤ a) (hb : 0 ≤ b) : caretTail (k == 1) (k == 2) a (tb k b) (tc k c) a (tb k b) (tc k c) (verCmp a (tb k b) (tc k c) E a (tb k b) (tc k c) E) = true := by
  rw [caretTail_iff, ver0_nonneg]
  have hk : k = 1 ∨ k = 2 ∨ k = 3 := by omega
  have e1 : ((k == 1) = true ∨ (k == 1) = false) := by cases (k == 1) <;> simp
  have e2 : ((k == 2) = true ∨ (k == 2) = false) := by cases (k == 2) <;> simp
  have hq : 0 ≤ tb k b := by unfold tb; split <;> omega
  generalize tb k b = x at *
  generalize tc k c = y at *
  rcases e1 with e1 | e1 <;> rcases e2 with e2 | e2 <;> rw [e1, e2] <;> simp only [eq_self, reduceCtorEq, true_and, false_and, and_true, and_false, or_false, false_or] <;> omega

theorem j3_ev (k0 a b c a' b' c' n0 n1 n2 : Int) (h1 : 1 ≤ k0) (h3 : k0 ≤ 3) (ha : 0 ≤ a) (hb : 0 ≤ b) (hc : 0 ≤ c) (ha' : 0 ≤ a') (hb' : 0 ≤ b') (hc' : 0 ≤ c')
    (hn : ((0 < a ∨ k0 = 1) ∧ n0 = a + 1 ∧ n1 = 0 ∧ n2 = 0) ∨ (¬ (0 < a ∨ k0 = 1) ∧ (0 < b ∨ k0 = 2) ∧ n0 = 0 ∧ n1 = b + 1 ∧ n2 = 0) ∨ (¬ (0 < a ∨ k0 = 1) ∧ ¬ (0 < b ∨ k0 = 2) ∧ n0 = 0 ∧ n1 = 0 ∧ n2 = c + 1)) :
    Ev (fun k => laws_FnSemverTermCaret.j3 k k0 a b c E E a' b' c' E E n0 n1 n2 E E) true := by
  have hn0 : 0 ≤ n0 ∧ 0 ≤ n1 := by omega
  refine Ev.succ ?_
  simp only [laws_FnSemverTermCaret.j3]
  rw [st7 k0 a b c a' b' c' ha hb, st4 k0 a b c a' b' c' ha hb, st3 n0 n1 n2 a' b' c' hn0.1 hn0.2, first_of k0 a b c h1 h3, core k0 a b c a' b' c' n0 n1 n2 h1 h3 ha hb hc ha' hb' hc' hn]
  simp only [Option.bind_some]
  rw [st7 k0 a b c a (tb k0 b) (tc k0 c) ha hb, low k0 a b c h1 h3 ha hb]
  simp only [Option.bind_some]
  refine Ev.ite (fun e => ?_) (fun e => ?_)
  · rw [e]
    exact Ev.pos (by simp) (Ev.val _)
  · rw [Bool.eq_false_iff.2 e]
    exact Ev.pos (by simp) (Ev.val _)

theorem pure (a b c : Int) (p m : ByteArray) (k0 a' b' c' : Int) (p' m' : ByteArray) (ya : u64ok a) (yb : u64ok b) (yc : u64ok c) (yk : i64ok k0) (ya' : u64ok a') (yb' : u64ok b') (yc' : u64ok c') : ∃ k, laws_FnSemverTermCaret.f k a b c p m k0 a' b' c' p' m' = some true := by
  refine Ev.get (g := fun k => laws_FnSemverTermCaret.f k a b c p m k0 a' b' c' p' m') ?_
  unfold laws_FnSemverTermCaret.f
  rw [fits14_ev, fits14_ev]
  simp only [Option.bind_some]
  refine Ev.ite (fun e1 => ?_) (fun _ => j0_true ..)
  cases e2 : fits14 p' m' with
  | false => exact j0_true ..
  | true =>
    refine Ev.succ ?_
    simp only [laws_FnSemverTermCaret.j0, Bool.not_true, laws_stBare.f, spec_Bare.f, Option.bind_some]
    refine Ev.neg (by simp) ?_
    by_cases hk1 : k0 ≥ 1
    · rw [if_pos hk1]
      simp only [Option.bind_some]
      refine Ev.ite (fun hk3 => ?_) (fun _ => j1_true ..)
      have hk3 : k0 ≤ 3 := by simpa using hk3
      obtain ⟨x, hx, hxx⟩ : ∃ x, laws_scPlus.f a b c E E k0 = some x ∧ (x = true → IntKind.u64.wrap (a + 1) ≠ 0 ∧ (2 ≤ k0 → IntKind.u64.wrap (b + 1) ≠ 0) ∧ (3 ≤ k0 → IntKind.u64.wrap (c + 1) ≠ 0)) := by
        unfold laws_scPlus.f
        generalize IntKind.u64.wrap (a + 1) = x
        generalize IntKind.u64.wrap (b + 1) = y
        generalize IntKind.u64.wrap (c + 1) = z
        split
        · exact ⟨_, rfl, by simp⟩
        · split
          · split
            · exact ⟨_, rfl, fun _ => ⟨by assumption, fun _ => by omega, fun _ => by omega⟩⟩
            · omega
          · split
            · exact ⟨_, rfl, by simp⟩
            · split
              · exact ⟨_, rfl, fun _ => ⟨by assumption, fun _ => by assumption, fun _ => by omega⟩⟩
              · exact ⟨_, rfl, fun h => ⟨by assumption, fun _ => by assumption, fun _ => by simpa using h⟩⟩
      rw [hx]
      simp only [Option.bind_some]
      cases x with
      | false => exact j1_true ..
      | true =>
        obtain ⟨wa, wb, wc⟩ := hxx rfl
        have na := wrap_next ya wa
        have ra := u64_range ya
        have rb := u64_range yb
        have rc := u64_range yc
        have ra' := u64_range ya'
        have rb' := u64_range yb'
        have rc' := u64_range yc'
        have j2 : ∀ x, (x = true ↔ (0 < a ∨ k0 = 1)) → Ev (fun k => laws_FnSemverTermCaret.j2 k k0 x a b c E E a' b' c' E E 0 0 (IntKind.u64.wrap (c + 1)) E E) true := by
          intro x hx
          refine Ev.succ ?_
          simp only [laws_FnSemverTermCaret.j2]
          refine Ev.ite (fun e => ?_) (fun e => ?_)
          · exact j3_ev k0 a b c a' b' c' _ _ _ hk1 hk3 ra.1 rb.1 rc.1 ra'.1 rb'.1 rc'.1 (.inl ⟨hx.1 e, na, rfl, rfl⟩)
          · have hna : ¬ (0 < a ∨ k0 = 1) := fun h => e (hx.2 h)
            refine Ev.ite (fun e2 => ?_) (fun e2 => Ev.ite (fun e3 => ?_) (fun e3 => ?_))
            · exact j3_ev k0 a b c a' b' c' _ _ _ hk1 hk3 ra.1 rb.1 rc.1 ra'.1 rb'.1 rc'.1 (.inr (.inl ⟨hna, .inl e2, rfl, wrap_next yb (wb (by omega)), rfl⟩))
            · exact j3_ev k0 a b c a' b' c' _ _ _ hk1 hk3 ra.1 rb.1 rc.1 ra'.1 rb'.1 rc'.1 (.inr (.inl ⟨hna, .inr e3, rfl, wrap_next yb (wb (by omega)), rfl⟩))
            · exact j3_ev k0 a b c a' b' c' _ _ _ hk1 hk3 ra.1 rb.1 rc.1 ra'.1 rb'.1 rc'.1 (.inr (.inr ⟨hna, fun h => h.elim e2 e3, rfl, rfl, wrap_next yc (wc (by omega))⟩))
        refine Ev.succ ?_
        simp only [laws_FnSemverTermCaret.j1, Bool.not_true]
        refine Ev.neg (by simp) (Ev.ite (fun e => j2 _ ⟨fun _ => .inl e, fun _ => rfl⟩) (fun e => j2 _ ⟨fun h => .inr (by simpa using h), fun h => ?_⟩))
        rcases h with h | h
        · exact absurd h e
        · simpa using h
    · rw [if_neg hk1]
      simp only [Option.bind_some]
      exact Ev.neg (by simp) (j1_true ..)
end Go.Proofs.YtgenbmhmcnaiiaaDoor.lawTermCaret
