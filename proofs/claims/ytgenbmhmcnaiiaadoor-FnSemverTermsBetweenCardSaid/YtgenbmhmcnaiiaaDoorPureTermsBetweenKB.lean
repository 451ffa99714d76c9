/- The plain law of FnSemverTermsBetween. -/
import Derived.Test.YtgenbmhmcnaiiaaDoorHaAntiKB
import Derived.Test.YtgenbmhmcnaiiaaDoorHaStructKB
import Derived.Test.YtgenbmhmcnaiiaaDoorHaCheck3KB
import Derived.Test.YtgenbmhmcnaiiaaDoorPGx18BKB
namespace Go.Proofs.YtgenbmhmcnaiiaaDoor.lawTermsBetween
open Go.RowKit Go.Proofs.YtgenbmhmcnaiiaaDoor.PG Go.Proofs.YtgenbmhmcnaiiaaDoor.H
open Go.Proofs.YtgenbmhmcnaiiaaDoorW.PrintWords hiding Ev Ev.bind
set_option linter.unusedVariables false
set_option linter.unusedSimpArgs false

theorem ok4 (a b c : Int) (p : ByteArray) (a' b' c' : Int) (p' : ByteArray) : termOk (⟨4, 3, a', b', c', p'⟩ : S54) true a b c p = decide (0 ≤ verCmp a b c p a' b' c' p') := by
  unfold termOk
  rw [checkHolds_op (show (0 : Int) ≤ 4 by decide) (show (4 : Int) < 8 by decide)]
  simp [opHolds, geHolds]
theorem ok5 (a b c : Int) (p : ByteArray) (a' b' c' : Int) (p' : ByteArray) : termOk (⟨5, 3, a', b', c', p'⟩ : S54) true a b c p = decide (verCmp a b c p a' b' c' p' ≤ 0) := by
  unfold termOk
  rw [checkHolds_op (show (0 : Int) ≤ 5 by decide) (show (5 : Int) < 8 by decide)]
  simp [opHolds, leHolds]
theorem two (a b c : Int) (p m : ByteArray) (a1 b1 c1 : Int) (p1 : ByteArray) (a2 b2 c2 : Int) (p2 : ByteArray) (sp : p.size ≤ 2147483647) (sp1 : p1.size ≤ 2147483647) (sp2 : p2.size ≤ 2147483647) (ha1 : 0 ≤ a1) (hb1 : 0 ≤ b1) (ha2 : 0 ≤ a2) (hb2 : 0 ≤ b2) :
    impl_TermsHold.f [[(⟨4, 3, a1, b1, c1, p1⟩ : S54), (⟨5, 3, a2, b2, c2, p2⟩ : S54)]] a b c p m true = some (decide (0 ≤ verCmp a b c p a1 b1 c1 p1) && decide (verCmp a b c p a2 b2 c2 p2 ≤ 0)) := by
  unfold impl_TermsHold.f
  have hok : ∀ l ∈ [[(⟨4, 3, a1, b1, c1, p1⟩ : S54), (⟨5, 3, a2, b2, c2, p2⟩ : S54)]], ∀ x ∈ l, okT x := by
    intro l hl x hx
    simp only [List.mem_cons, List.not_mem_nil, or_false] at hl
    subst hl
    simp only [List.mem_cons, List.not_mem_nil, or_false] at hx
    rcases hx with rfl | rfl
    · exact ⟨sp1, ha1, hb1, opText_known _⟩
    · exact ⟨sp2, ha2, hb2, opText_known _⟩
  have hl2 : ∀ l ∈ [[(⟨4, 3, a1, b1, c1, p1⟩ : S54), (⟨5, 3, a2, b2, c2, p2⟩ : S54)]], l.length ≤ 2147483647 := by
    intro l hl
    simp only [List.mem_cons, List.not_mem_nil, or_false] at hl
    subst hl
    simp
  rw [if_pos ⟨sp, by simp, hl2, hok⟩]
  simp only [List.any_cons, List.any_nil, Bool.or_false, groupOk, List.all_cons, List.all_nil, Bool.true_or, Bool.and_true, ok4, ok5]
theorem le (a b c : Int) (p m : ByteArray) (a' b' c' : Int) (p' m' : ByteArray) (hp : p.size ≤ 2147483647) (hp' : p'.size ≤ 2147483647) : impl_VersionLessEqual.f a b c p m a' b' c' p' m' = some (decide (verCmp a b c p a' b' c' p' ≤ 0)) := by
  unfold impl_VersionLessEqual.f
  rw [if_pos ⟨hp, hp'⟩]
theorem st_of (o a b c : Int) (p m : ByteArray) : laws_stTerm.f o a b c p m 3 = some (o, 3, a, b, c, p) := by
  have h1 : (3 : Int) > 1 := by decide
  have h2 : (3 : Int) > 2 := by decide
  unfold laws_stTerm.f
  rw [if_pos h1, if_pos h2, if_pos h2]

theorem j0_true (a b c : Int) (p m : ByteArray) (a' b' c' : Int) (p' m' : ByteArray) (a'' b'' c'' : Int) (p'' m'' : ByteArray) : Ev (fun k => laws_FnSemverTermsBetween.j0 k true a b c p m a' b' c' p' m' a'' b'' c'' p'' m'') true := by
  refine Ev.succ ?_
  simp only [laws_FnSemverTermsBetween.j0]
  exact Ev.pos (by simp) (Ev.val _)

theorem pure (a b c : Int) (p m : ByteArray) (a' b' c' : Int) (p' m' : ByteArray) (a'' b'' c'' : Int) (p'' m'' : ByteArray) (ya : u64ok a) (yb : u64ok b) (yc : u64ok c) (ya' : u64ok a') (yb' : u64ok b') (yc' : u64ok c') (ya'' : u64ok a'') (yb'' : u64ok b'') (yc'' : u64ok c'') : ∃ k, laws_FnSemverTermsBetween.f k a b c p m a' b' c' p' m' a'' b'' c'' p'' m'' = some true := by
  refine Ev.get (g := fun k => laws_FnSemverTermsBetween.f k a b c p m a' b' c' p' m' a'' b'' c'' p'' m'') ?_
  unfold laws_FnSemverTermsBetween.f
  rw [fits14_ev, fits14_ev, fits14_ev]
  simp only [Option.bind_some]
  refine Ev.ite (fun e1 => ?_) (fun _ => j0_true ..)
  refine Ev.ite (fun e2 => ?_) (fun _ => j0_true ..)
  cases e3 : fits14 p'' m'' with
  | false => exact j0_true ..
  | true =>
    obtain ⟨sp, sm⟩ := fits14_iff.1 e1
    obtain ⟨sp', sm'⟩ := fits14_iff.1 e2
    obtain ⟨sp'', sm''⟩ := fits14_iff.1 e3
    have ra := u64_range ya
    have rb := u64_range yb
    have ra' := u64_range ya'
    have rb' := u64_range yb'
    have ra'' := u64_range ya''
    have rb'' := u64_range yb''
    refine Ev.succ ?_
    simp only [laws_FnSemverTermsBetween.j0, Bool.not_true]
    refine Ev.neg (by simp) ?_
    have hg := svGood_ev [⟨a, b, c, p, m⟩, ⟨a', b', c', p', m'⟩, ⟨a'', b'', c'', p'', m''⟩] (by
      intro v hv
      simp only [List.mem_cons, List.not_mem_nil, or_false] at hv
      rcases hv with rfl | rfl | rfl
      · exact ⟨by show p.size < _; omega, by show m.size < _; omega⟩
      · exact ⟨by show p'.size < _; omega, by show m'.size < _; omega⟩
      · exact ⟨by show p''.size < _; omega, by show m''.size < _; omega⟩) (by simp)
    refine Ev.bind hg (Ev.ite (fun e => ?_) (fun _ => Ev.val _))
    simp only [List.all_cons, List.all_nil, Bool.and_true, Bool.and_eq_true] at e
    obtain ⟨g1, g2, g3⟩ := e
    have k1 := okVer_pre g1
    have k2 := okVer_pre g2
    have k3 := okVer_pre g3
    simp only at k1 k2 k3
    have key : ∀ q : Bool, q = (decide (verCmp a b c p a'' b'' c'' p'' ≤ 0) && decide (verCmp a'' b'' c'' p'' a' b' c' p' ≤ 0)) →
        Ev (fun k => laws_FnSemverTermsBetween.j1 k [[(⟨4, 3, a, b, c, p⟩ : S54), (⟨5, 3, a', b', c', p'⟩ : S54)]] q a b c p m a' b' c' p' m' a'' b'' c'' p'' m'') true := by
      intro q hq
      refine Ev.succ ?_
      simp only [laws_FnSemverTermsBetween.j1, st_of, Option.bind_some]
      rw [two a'' b'' c'' p'' m'' a'' b'' c'' p'' a'' b'' c'' p'' sp'' sp'' sp'' ra''.1 rb''.1 ra''.1 rb''.1,
        two a'' b'' c'' p'' m'' a b c p a' b' c' p' sp'' sp sp' ra.1 rb.1 ra'.1 rb'.1,
        two a b c p m a b c p a' b' c' p' sp sp sp' ra.1 rb.1 ra'.1 rb'.1,
        two a' b' c' p' m' a b c p a' b' c' p' sp' sp sp' ra.1 rb.1 ra'.1 rb'.1,
        le a b c p m a' b' c' p' m' sp sp']
      simp only [Option.bind_some]
      have t1 := ver_turn (a := a) (b := b) (c := c) (a' := a'') (b' := b'') (c' := c'') k1 k3
      have t2 := ver_turn (a := a) (b := b) (c := c) (a' := a') (b' := b') (c' := c') k1 k2
      have s1 := ver_same (a := a) (b := b) (c := c) k1
      have s2 := ver_same (a := a') (b := b') (c := c') k2
      have s3 := ver_same (a := a'') (b := b'') (c := c'') k3
      refine Ev.pos (by rw [s3]; decide) (Ev.pos (by rw [hq, t1]; simp) (Ev.pos (by rw [s1]; simp) ((Ev.val _).eq (by rw [s2, t2]; simp))))
    simp only [st_of, Option.bind_some]
    rw [le a b c p m a'' b'' c'' p'' m'' sp sp'', le a'' b'' c'' p'' m'' a' b' c' p' m' sp'' sp']
    simp only [Option.bind_some]
    refine Ev.ite (fun h => key _ (by rw [h]; simp)) (fun h => key _ (by rw [Bool.eq_false_iff.2 h]; simp))
end Go.Proofs.YtgenbmhmcnaiiaaDoor.lawTermsBetween
