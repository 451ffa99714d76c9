/- What a printed function comes to, given steps enough: rules for 'bind', 'if' and loops. No program in sight. -/
import Derived.Test.YtecokmgminakpaaHaPlain
namespace Go.Proofs.Ytecokmgminakpaa.H
open Go.RowKit Go.Proofs.YtecokmgminakpaaW.PrintWords
set_option linter.unusedVariables false
set_option linter.unusedSimpArgs false
set_option linter.unnecessarySimpa false

def Ev {α : Type} (g : Nat → Option α) (v : α) : Prop := ∃ N, ∀ k, N ≤ k → g k = some v
theorem Ev.val {α : Type} (v : α) : Ev (fun _ => some v) v := ⟨0, fun _ _ => rfl⟩
theorem Ev.of {α : Type} {a : Option α} {v : α} (h : a = some v) : Ev (fun _ => a) v := ⟨0, fun _ _ => h⟩
theorem Ev.get {α : Type} {g : Nat → Option α} {v : α} (h : Ev g v) : ∃ k, g k = some v := by
  obtain ⟨N, h⟩ := h
  exact ⟨N, h N (Nat.le_refl _)⟩
theorem Ev.bind {α β : Type} {g : Nat → Option α} {h : Nat → α → Option β} {v : α} {r : β} (hg : Ev g v) (hh : Ev (fun k => h k v) r) : Ev (fun k => (g k).bind (h k)) r := by
  obtain ⟨N, hg⟩ := hg
  obtain ⟨M, hh⟩ := hh
  refine ⟨max N M, fun k hk => ?_⟩
  show (g k).bind (h k) = some r
  rw [hg k (by omega), Option.bind_some]
  exact hh k (by omega)
theorem Ev.succ {α : Type} {g : Nat → Option α} {v : α} (h : Ev (fun k => g (k + 1)) v) : Ev g v := by
  obtain ⟨N, h⟩ := h
  refine ⟨N + 1, fun k hk => ?_⟩
  cases k with
  | zero => omega
  | succ k => exact h k (by omega)
theorem Ev.pos {α : Type} {c : Prop} [Decidable c] {a b : Nat → Option α} {v : α} (hc : c) (h : Ev a v) : Ev (fun k => if c then a k else b k) v := by
  obtain ⟨N, h⟩ := h
  exact ⟨N, fun k hk => by show (if c then a k else b k) = some v; rw [if_pos hc]; exact h k hk⟩
theorem Ev.neg {α : Type} {c : Prop} [Decidable c] {a b : Nat → Option α} {v : α} (hc : ¬ c) (h : Ev b v) : Ev (fun k => if c then a k else b k) v := by
  obtain ⟨N, h⟩ := h
  exact ⟨N, fun k hk => by show (if c then a k else b k) = some v; rw [if_neg hc]; exact h k hk⟩
theorem Ev.ite {α : Type} {c : Prop} [Decidable c] {a b : Nat → Option α} {v : α} (ha : c → Ev a v) (hb : ¬ c → Ev b v) : Ev (fun k => if c then a k else b k) v := by
  by_cases hc : c
  · exact Ev.pos hc (ha hc)
  · exact Ev.neg hc (hb hc)
theorem Ev.eq {α : Type} {g : Nat → Option α} {v v' : α} (h : Ev g v) (e : v = v') : Ev g v' := e ▸ h
/-- Of two ends there is one. -/
theorem Ev.uniq {α : Type} {g : Nat → Option α} {v v' : α} (h : Ev g v) (h' : Ev g v') : v = v' := by
  obtain ⟨N, h⟩ := h
  obtain ⟨M, h'⟩ := h'
  have a := h (max N M) (by omega)
  have b := h' (max N M) (by omega)
  exact Option.some.inj (a.symm.trans b)

theorem wrap1 {i n : Nat} (h : i < n) (hn : n ≤ 9223372036854775807) : wrap64 ((i : Int) + 1) = ((i + 1 : Nat) : Int) := by unfold wrap64; omega

/-- A loop over a list that ends at the first element that misses p. -/
theorem all_loop {α : Type} {xs : List α} {L : Nat → Int → Option Bool} {p : α → Bool} {fin : Bool}
    (hend : Ev (fun k => L k (xs.length : Int)) fin)
    (hstep : ∀ i (h : i < xs.length), (p xs[i] = true → ∀ v, Ev (fun k => L k ((i + 1 : Nat) : Int)) v → Ev (fun k => L k (i : Int)) v) ∧ (p xs[i] = false → Ev (fun k => L k (i : Int)) false)) :
    Ev (fun k => L k 0) (xs.all p && fin) := by
  have main : ∀ n i, xs.length - i = n → i ≤ xs.length → Ev (fun k => L k (i : Int)) ((xs.drop i).all p && fin) := by
    intro n
    induction n with
    | zero =>
      intro i hn hi
      have : i = xs.length := by omega
      subst this
      rw [List.drop_length]
      simpa using hend
    | succ n ih =>
      intro i hn hi
      have hlt : i < xs.length := by omega
      have hd := List.drop_eq_getElem_cons hlt
      cases hp : p xs[i] with
      | true =>
        refine ((hstep i hlt).1 hp _ (ih (i + 1) (by omega) (by omega))).eq ?_
        rw [hd, List.all_cons, hp, Bool.true_and]
      | false =>
        refine ((hstep i hlt).2 hp).eq ?_
        rw [hd, List.all_cons, hp, Bool.false_and, Bool.false_and]
  exact main xs.length 0 (by omega) (by omega)

theorem rd_get {xs : List ByteArray} {i : Nat} (h : i < xs.length) : rdOf ByteArray.empty xs (i : Int) = xs[i] := by
  simp [rdOf, List.getD_eq_getElem?_getD, h]
end Go.Proofs.Ytecokmgminakpaa.H
