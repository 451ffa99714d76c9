/- What a program captures lies in the text. -/
import Derived.Test.YtekkaknpgdgjjaaGreatDoorHaLookW1
namespace Go.Proofs.YtekkaknpgdgjjaaGreatDoor.H
open Go.RowKit
set_option linter.unusedVariables false
set_option linter.unusedSimpArgs false

/-! What is captured lies in the text: a program that opens and closes its groups as a table says. -/
def vg (op : Bool) (pos : Nat) (a b : Int) : Prop := a = -1 ∨ (0 ≤ a ∧ a ≤ b ∧ b ≤ pos) ∨ (op = true ∧ 0 ≤ a ∧ a ≤ pos)
def Vd (O : List (List Nat)) (n pc pos : Nat) (c : List Int) : Prop := c.length = n ∧ ∀ g, 2 * g + 1 < n → vg ((O.getD pc []).contains g) pos (rdI c ((2 * g : Nat) : Int)) (rdI c ((2 * g + 1 : Nat) : Int))
def sub (a b : List Nat) : Bool := a.all fun x => b.contains x
/-- The table's check at an instruction. -/
def opOk (O : List (List Nat)) (n : Nat) (L : List Bi) (pc : Nat) (I : Bi) : Bool :=
  if I.op = 0 then sub (O.getD pc []) (O.getD I.out.toNat []) && sub (O.getD pc []) (O.getD I.arg.toNat [])
  else if I.op = 2 then decide (I.arg.toNat < n) && (if I.arg.toNat % 2 = 0 then sub (I.arg.toNat / 2 :: O.getD pc []) (O.getD I.out.toNat []) else sub ((O.getD pc []).filter (· != I.arg.toNat / 2)) (O.getD I.out.toNat []))
  else if I.op = 4 then sub (O.getD pc []) [0]
  else sub (O.getD pc []) (O.getD I.out.toNat [])
def opsOk (O : List (List Nat)) (n : Nat) (L : List Bi) : Bool := (List.range L.length).all fun pc => match L[pc]? with
  | none => true
  | some I => opOk O n L pc I
theorem sub_mem {a b : List Nat} (h : sub a b = true) {x : Nat} (hx : a.contains x = true) : b.contains x = true := List.all_eq_true.1 h x (by simpa using hx)
theorem vg_mono {op op' : Bool} {pos pos' : Nat} {a b : Int} (h : vg op pos a b) (ho : op = true → op' = true) (hp : pos ≤ pos') : vg op' pos' a b := by
  rcases h with h | ⟨h1, h2, h3⟩ | ⟨h1, h2, h3⟩
  · exact .inl h
  · exact .inr (.inl ⟨h1, h2, by omega⟩)
  · exact .inr (.inr ⟨ho h1, h2, by omega⟩)
section
variable {L : List Bi} {t : Nat → Int} {E : Nat}
theorem ctl_go {I : Bi} {pos p : Nat} (h : ctl t E I pos = .go p) : pos ≤ p ∧ I.op ≠ 0 ∧ I.op ≠ 2 ∧ I.op ≠ 4 := by
  unfold ctl at h
  split at h
  · cases h
  split at h
  · cases h
  split at h
  · cases h
  refine ⟨?_, by assumption, by assumption, by assumption⟩
  repeat' split at h
  all_goals first | (cases h; omega) | cases h
theorem ctl_acc {I : Bi} {pos : Nat} (h : ctl t E I pos = .acc) : I.op = 4 := by
  unfold ctl at h
  repeat' split at h
  all_goals first | assumption | cases h
theorem mat_valid {O : List (List Nat)} {n : Nat} (hn : 1 < n) (hO : opsOk O n L = true) : ∀ (k pc pos : Nat) (c c' : List Int), pos ≤ E → Vd O n pc pos c → mat L t E k pc pos c = some (some c') → c'.length = n ∧ ∀ g, 2 * g + 1 < n → vg false E (rdI c' ((2 * g : Nat) : Int)) (rdI c' ((2 * g + 1 : Nat) : Int)) := by
  intro k
  induction k with
  | zero => intro pc pos c c' _ _ h; cases h
  | succ k ih =>
    intro pc pos c c' hpos hv h
    rw [mat] at h
    cases hI : L[pc]? with
    | none => rw [hI] at h; cases h
    | some I =>
      rw [hI] at h
      dsimp only at h
      have hpc : pc < L.length := (List.getElem?_eq_some_iff.1 hI).1
      have hok := List.all_eq_true.1 hO pc (List.mem_range.2 hpc)
      rw [hI] at hok
      dsimp only at hok
      unfold opOk at hok
      have move : ∀ (pc' p : Nat), sub (O.getD pc []) (O.getD pc' []) = true → pos ≤ p → Vd O n pc' p c := by
        intro pc' p hs hp
        exact ⟨hv.1, fun g hg => vg_mono (hv.2 g hg) (fun h => sub_mem hs h) hp⟩
      cases hc : ctl t E I pos with
      | bad => rw [hc] at h; cases h
      | fail => rw [hc] at h; cases h
      | acc =>
        rw [hc] at h
        have o4 := ctl_acc hc
        rw [if_neg (by omega), if_neg (by omega), if_pos o4] at hok
        dsimp only at h
        rw [if_pos (by rw [hv.1]; exact hn)] at h
        cases h
        refine ⟨by simpa using hv.1, fun g hg => ?_⟩
        have hg' := hv.2 g hg
        by_cases h0 : g = 0
        · subst h0
          have e1 : rdI (c.set 1 (pos : Int)) ((2 * 0 + 1 : Nat) : Int) = (pos : Int) := by
            rw [rdI_get (by simp; rw [hv.1]; exact hn)]
            simp
          have e0 : rdI (c.set 1 (pos : Int)) ((2 * 0 : Nat) : Int) = rdI c ((2 * 0 : Nat) : Int) := by
            rw [rdI_get (by simp; rw [hv.1]; omega), rdI_get (by rw [hv.1]; omega), List.getElem_set_ne (by omega)]
          rw [e0, e1]
          rcases hg' with h | ⟨h1, h2, h3⟩ | ⟨h1, h2, h3⟩
          · exact .inl h
          · exact .inr (.inl ⟨h1, by omega, by omega⟩)
          · exact .inr (.inl ⟨h2, by omega, by omega⟩)
        · have e : ∀ i, i < n → i ≠ 1 → rdI (c.set 1 (pos : Int)) (i : Int) = rdI c (i : Int) := by
            intro i hi h1
            rw [rdI_get (by simp; rw [hv.1]; exact hi), rdI_get (by rw [hv.1]; exact hi), List.getElem_set_ne (by omega)]
          rw [e _ (by omega) (by omega), e _ (by omega) (by omega)]
          refine vg_mono hg' (fun h => ?_) hpos
          have := sub_mem hok h
          simp at this
          exact absurd this h0
      | alt =>
        rw [hc] at h
        have o0 := ctl_alt hc
        rw [if_pos o0, Bool.and_eq_true] at hok
        dsimp only at h
        cases hm : mat L t E k I.out.toNat pos c with
        | none => rw [hm] at h; cases h
        | some o =>
          rw [hm] at h
          cases o with
          | none => exact ih _ _ _ _ hpos (move _ _ hok.2 (Nat.le_refl _)) h
          | some c1 => exact ih _ _ _ _ hpos (move _ _ hok.1 (Nat.le_refl _)) (hm.trans h)
      | cap =>
        rw [hc] at h
        have o2 := ctl_cap hc
        rw [if_neg (by omega), if_pos o2, Bool.and_eq_true, decide_eq_true_eq] at hok
        dsimp only at h
        have hlt : I.arg.toNat < c.length := by rw [hv.1]; exact hok.1
        rw [if_pos hlt] at h
        refine ih _ _ _ _ hpos ⟨by simpa using hv.1, fun g hg => ?_⟩ h
        have hg' := hv.2 g hg
        have get : ∀ i, i < n → rdI (c.set I.arg.toNat (pos : Int)) (i : Int) = if i = I.arg.toNat then (pos : Int) else rdI c (i : Int) := by
          intro i hi
          rw [rdI_get (by simp; rw [hv.1]; exact hi)]
          by_cases e : i = I.arg.toNat
          · subst e
            simp
          · rw [if_neg e, rdI_get (by rw [hv.1]; exact hi), List.getElem_set_ne (by omega)]
        rw [get _ (by omega), get _ hg]
        by_cases hp : I.arg.toNat % 2 = 0
        · rw [if_pos hp] at hok
          by_cases e : 2 * g = I.arg.toNat
          · rw [if_pos e]
            refine .inr (.inr ⟨sub_mem hok.2 ?_, by omega, by omega⟩)
            have : I.arg.toNat / 2 = g := by omega
            simp [this]
          · rw [if_neg e, if_neg (by omega)]
            refine vg_mono hg' (fun h => sub_mem hok.2 ?_) (Nat.le_refl _)
            simp at h ⊢
            exact .inr h
        · rw [if_neg hp] at hok
          by_cases e : 2 * g + 1 = I.arg.toNat
          · rw [if_neg (by omega), if_pos e]
            rcases hg' with h | ⟨h1, h2, h3⟩ | ⟨h1, h2, h3⟩
            · exact .inl h
            · exact .inr (.inl ⟨h1, by omega, by omega⟩)
            · exact .inr (.inl ⟨h2, h3, by omega⟩)
          · rw [if_neg (by omega), if_neg e]
            refine vg_mono hg' (fun h => sub_mem hok.2 ?_) (Nat.le_refl _)
            simp at h ⊢
            exact ⟨h, by omega⟩
      | go p =>
        rw [hc] at h
        obtain ⟨h1, h2, h3, h4⟩ := ctl_go hc
        rw [if_neg h2, if_neg h3, if_neg h4] at hok
        exact ih _ _ _ _ (ctl_pos hc hpos) (move _ _ hok h1) h
end
end Go.Proofs.YtekkaknpgdgjjaaGreatDoor.H
