/- What a printed function comes to, given steps enough: rules for 'bind', 'if' and loops. No program in sight. -/
import Derived.Test.YtgenbmhmcnaiiaaDoorHaPlainK14
namespace Go.Proofs.YtgenbmhmcnaiiaaDoor.H
open Go.RowKit Go.Proofs.YtgenbmhmcnaiiaaDoorW.PrintWords
set_option linter.unusedVariables false
set_option linter.unusedSimpArgs false
set_option linter.unnecessarySimpa false

def Ev {α : Type} (g : Nat → Option α) (v : α) : Prop := ∃ N, ∀ k, N ≤ k → g k = some v
theorem Ev.val {α : Type} (v : α) : Ev (fun _ => some v) v := ⟨0, fun _ _ => rfl⟩
theorem Ev.of {α : Type} {a : Option α} {v : α} (h : a = some v) : Ev (fun _ => a) v := ⟨0, fun _ _ => h⟩
theorem Ev.get {α : Type} {g : Nat → Option α} {v : α} (h : Ev g v) : ∃ k, g k = some v := by
  obtain ⟨N, h⟩ := h
  exact ⟨N, h N (Nat.le_refl _)⟩
theorem Ev.bind {α β : Type} {g : Nat → Option α} {h : Nat → α → Option β} {v : α} {r : β} (hg : Ev g v) (hh : Ev (fun k => h k v) r) : Ev (fun k => (g k).bind (h k)) r := by
  obtain ⟨N, hg⟩ := hg
  obtain ⟨M, hh⟩ := hh
  refine ⟨max N M, fun k hk => ?_⟩
  show (g k).bind (h k) = some r
  rw [hg k (by omega), Option.bind_some]
  exact hh k (by omega)
theorem Ev.succ {α : Type} {g : Nat → Option α} {v : α} (h : Ev (fun k => g (k + 1)) v) : Ev g v := by
  obtain ⟨N, h⟩ := h
  refine ⟨N + 1, fun k hk => ?_⟩
  cases k with
  | zero => omega
  | succ k => exact h k (by omega)
theorem Ev.pos {α : Type} {c : Prop} [Decidable c] {a b : Nat → Option α} {v : α} (hc : c) (h : Ev a v) : Ev (fun k => if c then a k else b k) v := by
  obtain ⟨N, h⟩ := h
  exact ⟨N, fun k hk => by show (if c then a k else b k) = some v; rw [if_pos hc]; exact h k hk⟩
theorem Ev.neg {α : Type} {c : Prop} [Decidable c] {a b : Nat → Option α} {v : α} (hc : ¬ c) (h : Ev b v) : Ev (fun k => if c then a k else b k) v := by
  obtain ⟨N, h⟩ := h
  exact ⟨N, fun k hk => by show (if c then a k else b k) = some v; rw [if_neg hc]; exact h k hk⟩
theorem Ev.ite {α : Type} {c : Prop} [Decidable c] {a b : Nat → Option α} {v : α} (ha : c → Ev a v) (hb : ¬ c → Ev b v) : Ev (fun k => if c then a k else b k) v := by
  by_cases hc : c
  · exact Ev.pos hc (ha hc)
  · exact Ev.neg hc (hb hc)

end Go.Proofs.YtgenbmhmcnaiiaaDoor.H
