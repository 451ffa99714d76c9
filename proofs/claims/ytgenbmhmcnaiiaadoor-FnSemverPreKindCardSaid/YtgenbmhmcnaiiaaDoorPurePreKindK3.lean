/- The plain law of FnSemverPreKind. -/
import Derived.Test.YtgenbmhmcnaiiaaDoorHaWordsK3
import Derived.Test.YtgenbmhmcnaiiaaDoorHaOnlyPK3
import Derived.Test.YtgenbmhmcnaiiaaDoorPGx4K3
namespace Go.Proofs.YtgenbmhmcnaiiaaDoor.lawPreKind
open Go.RowKit Go.Proofs.YtgenbmhmcnaiiaaDoor.PG Go.Proofs.YtgenbmhmcnaiiaaDoor.H
open Go.Proofs.YtgenbmhmcnaiiaaDoorW.PrintWords hiding Ev Ev.bind
set_option linter.unusedVariables false
set_option linter.unusedSimpArgs false

theorem part_eq (x : ByteArray) : partErr x = pErr x.data.toList := by
  have h := partErr_eq x.data.toList
  have e : ba x.data.toList = x := eq_of_data (by rw [ba_data])
  rw [e] at h
  exact h

theorem loop (X : List ByteArray) (hl : X.length ≤ 9223372036854775807) (hX : ∀ x ∈ X, x.size ≤ 9223372036854775807) : ∀ n i, X.length - i = n → i ≤ X.length → Ev (fun k => spec_PreKind.l0 k X X.length (i : Int)) (kindOf (preErr (X.drop i))) := by
  intro n
  induction n with
  | zero =>
    intro i hn hi
    have : i = X.length := by omega
    subst this
    rw [List.drop_length]
    refine Ev.succ ?_
    simp only [spec_PreKind.l0]
    exact Ev.neg (by omega) ((Ev.val _).eq rfl)
  | succ n ih =>
    intro i hn hi
    have h : i < X.length := by omega
    have hv := ih (i + 1) (by omega) (by omega)
    have hsz := hX _ (List.getElem_mem h)
    have hd := digits_ev X[i] hsz
    have hi := ident_ev X[i] hsz
    have hl' : (X[i].size : Int) > 1 ↔ 1 < X[i].data.toList.length := by rw [size_eq]; omega
    have hh := head_ev X[i]
    rw [preErr_step h, part_eq]
    have J : ∀ q : Bool, (q = true → pErr X[i].data.toList = 3) → (q = false → pErr X[i].data.toList = if ident X[i].data.toList = true then 0 else 4) → Ev (fun k => spec_PreKind.j1 k X[i] X X.length (i : Int) q) (kindOf (if pErr X[i].data.toList = 0 then preErr (X.drop (i + 1)) else pErr X[i].data.toList)) := by
      intro q h1 h2
      refine Ev.succ ?_
      simp only [spec_PreKind.j1]
      rw [wrap1 h (by omega)]
      refine Ev.ite (fun e => ?_) (fun e => ?_)
      · rw [h1 e]
        exact (Ev.val _).eq rfl
      · rw [h2 (Bool.eq_false_iff.2 e)]
        refine Ev.bind hi ?_
        refine Ev.ite (fun e3 => ?_) (fun e3 => ?_)
        · rw [if_pos e3, if_pos rfl]
          exact hv
        · rw [if_neg e3]
          exact (Ev.val _).eq rfl
    refine Ev.succ ?_
    simp only [spec_PreKind.l0]
    refine Ev.pos (by omega) (Ev.pos (by omega) (Ev.pos (by omega) ?_))
    rw [rd_get h]
    refine Ev.bind hd ?_
    have hne : digits X[i].data.toList = true → X[i].data.toList ≠ [] := fun e => ident_ne (digits_ident e)
    refine Ev.ite (fun e1 => ?_) (fun e1 => ?_)
    · refine Ev.ite (fun e2 => ?_) (fun e2 => ?_)
      · refine Ev.pos (by omega) (J _ (fun e => ?_) (fun e => ?_))
        · unfold pErr
          rw [if_neg (hne e1), if_pos e1, if_pos ⟨hl'.1 e2, (hh (hl'.1 e2)).1 (by simpa using e)⟩]
        · unfold pErr
          rw [if_neg (hne e1), if_pos e1, if_neg (fun h' => by rw [(hh (hl'.1 e2)).2 h'.2] at e; cases e), if_pos (digits_ident e1)]
      · refine J _ (fun e => by cases e) (fun e => ?_)
        unfold pErr
        rw [if_neg (hne e1), if_pos e1, if_neg (fun h' => e2 (hl'.2 h'.1)), if_pos (digits_ident e1)]
    · refine J _ (fun e => by cases e) (fun e => ?_)
      unfold pErr
      by_cases hn : X[i].data.toList = []
      · rw [if_pos hn, hn]
        rfl
      · rw [if_neg hn, if_neg e1]

theorem kind_ev (s : ByteArray) (hs : s.size < 8796093022207) : Ev (fun k => spec_PreKind.f k s) (kindOf (preErr ((parts 46 s.data.toList).map ba))) := by
  unfold spec_PreKind.f
  refine Ev.bind (idents_ev s hs) ?_
  have hlen : ((parts 46 s.data.toList).map ba).length ≤ s.size + 1 := by rw [List.length_map, size_eq]; exact parts_length _ _
  have h := loop ((parts 46 s.data.toList).map ba) (by omega) (fun x hx => by have := parts_size hx; omega) _ 0 rfl (by omega)
  simpa using h

theorem pure (s : ByteArray) : ∃ k, laws_FnSemverPreKind.f k s = some true := by
  refine Ev.get (g := fun k => laws_FnSemverPreKind.f k s) ?_
  unfold laws_FnSemverPreKind.f
  refine Ev.ite (fun _ => Ev.val _) (fun e => ?_)
  refine Ev.bind (short_ev [s] (by simp)) ?_
  refine Ev.ite (fun _ => ?_) (fun _ => Ev.val _)
  have hi : impl_PreKind.f s = some (kindOf (preErr ((parts 46 s.data.toList).map ba))) := by
    unfold impl_PreKind.f
    rw [if_pos (by omega)]
  rw [hi]
  simp only [Option.bind_some]
  exact Ev.bind (kind_ev s (by omega)) ((Ev.val _).eq (by simp))
end Go.Proofs.YtgenbmhmcnaiiaaDoor.lawPreKind
