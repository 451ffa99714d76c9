/- A match by rank found with one rune of lookahead: rules. -/
import Derived.Test.YtekkaknpgdgjjaaGreatDoorBtW1
namespace Go.Proofs.YtekkaknpgdgjjaaGreatDoor.H
open Go.RowKit
set_option linter.unusedVariables false
set_option linter.unusedSimpArgs false

inductive Lk where
  | rej : Lk
  | acc : List Nat → Lk
  | go : List Nat → Nat → Lk
deriving DecidableEq
/-- What comes behind an instruction, at a rune: the places that are captured on the way, and where the program goes on behind the rune. -/
def lk (L : List Bi) (z : Bool) (r : Int) : Nat → Nat → Option Lk
  | 0, _ => none
  | k + 1, pc => match L[pc]? with
    | none => none
    | some I =>
      if I.op = 0 then (match lk L z r k I.out.toNat with
        | some .rej => lk L z r k I.arg.toNat
        | x => x)
      else if I.op = 2 then (match lk L z r k I.out.toNat with
        | some (.acc cs) => some (.acc (I.arg.toNat :: cs))
        | some (.go cs o) => some (.go (I.arg.toNat :: cs) o)
        | x => x)
      else if I.op = 4 then some (.acc [])
      else if I.op = 6 then lk L z r k I.out.toNat
      else if I.op = 7 then (if mrp I.rs r = -1 then some .rej else some (.go [] I.out.toNat))
      else if I.op = 8 then (if r = rdI I.rs 0 then some (.go [] I.out.toNat) else some .rej)
      else if I.op = 3 then (if I.arg = 4 then (if z = true then lk L z r k I.out.toNat else some .rej) else if I.arg = 8 then (if r < 0 then lk L z r k I.out.toNat else some .rej) else none)
      else none
/-- The captures of a place. -/
def app (cs : List Nat) (pos : Nat) (c : List Int) : List Int := cs.foldl (fun c i => if i < c.length then c.set i (pos : Int) else c) c
theorem app_len : ∀ (cs : List Nat) (pos : Nat) (c : List Int), (app cs pos c).length = c.length := by
  intro cs
  induction cs with
  | nil => intro pos c; rfl
  | cons i cs ih =>
    intro pos c
    show (app cs pos (if i < c.length then c.set i (pos : Int) else c)).length = c.length
    rw [ih]
    split <;> simp

def LkOk (L : List Bi) (t : Nat → Int) (E k pc pos : Nat) : Lk → Prop
  | .rej => ∀ c, mat L t E k pc pos c = some none
  | .acc cs => ∀ c, mat L t E k pc pos c = some (some (if 1 < c.length then (app cs pos c).set 1 (pos : Int) else app cs pos c))
  | .go cs o => pos < E → ∀ c K c', mat L t E K o (pos + 1) (app cs pos c) = some (some c') → mat L t E (K + k) pc pos c = some (some c')
section
variable {L : List Bi} {t : Nat → Int} {E : Nat}
theorem lk_does : ∀ (k pc pos : Nat) (x : Lk), pos ≤ E → lk L (pos == 0) (t pos) k pc = some x →
    LkOk L t E k pc pos x := by
  intro k
  induction k with
  | zero => intro pc pos x _ h; cases h
  | succ k ih =>
    intro pc pos x hp h
    rw [lk] at h
    cases hI : L[pc]? with
    | none => rw [hI] at h; cases h
    | some I =>
      rw [hI] at h
      dsimp only at h
      have unf : ∀ n c, mat L t E (n + 1) pc pos c = (match ctl t E I pos with
        | .bad => none
        | .fail => some none
        | .acc => some (some (if 1 < c.length then c.set 1 pos else c))
        | .alt => match mat L t E n I.out.toNat pos c with
          | some none => mat L t E n I.arg.toNat pos c
          | r => r
        | .cap => if I.arg.toNat < c.length then mat L t E n I.out.toNat pos (c.set I.arg.toNat pos) else mat L t E n I.out.toNat pos c
        | .go pos' => mat L t E n I.out.toNat pos' c) := by
        intro n c
        rw [mat, hI]
        rfl
      by_cases o0 : I.op = 0
      · rw [if_pos o0] at h
        have hc : ctl t E I pos = .alt := by unfold ctl; rw [if_pos o0]
        simp only [hc] at unf
        cases hl : lk L (pos == 0) (t pos) k I.out.toNat with
        | none => rw [hl] at h; cases h
        | some y =>
          rw [hl] at h
          have h1 : LkOk L t E k _ pos _ := ih _ _ _ hp hl
          cases y with
          | rej =>
            dsimp only at h h1
            have h2 := ih _ _ _ hp h
            cases x with
            | rej => intro c; rw [unf, h1 c]; exact h2 c
            | acc cs => intro c; rw [unf, h1 c]; exact h2 c
            | go cs o =>
              intro hlt c K c' hm
              rw [← Nat.add_assoc, unf]
              rw [mat_le (show k ≤ K + k by omega) (h1 c)]
              exact h2 hlt c K c' hm
          | acc cs =>
            cases h
            intro c
            rw [unf, h1 c]
          | go cs o =>
            cases h
            intro hlt c K c' hm
            rw [← Nat.add_assoc, unf, h1 hlt c K c' hm]
      rw [if_neg o0] at h
      by_cases o2 : I.op = 2
      · rw [if_pos o2] at h
        have hc : ctl t E I pos = .cap := by unfold ctl; rw [if_neg o0, if_pos o2]
        simp only [hc] at unf
        cases hl : lk L (pos == 0) (t pos) k I.out.toNat with
        | none => rw [hl] at h; cases h
        | some y =>
          rw [hl] at h
          have h1 : LkOk L t E k _ pos _ := ih _ _ _ hp hl
          cases y with
          | rej =>
            cases h
            intro c
            rw [unf]
            split
            · exact h1 _
            · exact h1 _
          | acc cs =>
            cases h
            intro c
            rw [unf]
            by_cases hi : I.arg.toNat < c.length
            · rw [if_pos hi, h1]
              simp only [List.length_set]
              rw [show app (I.arg.toNat :: cs) pos c = app cs pos (c.set I.arg.toNat pos) by show app cs pos (if _ then _ else _) = _; rw [if_pos hi]]
            · rw [if_neg hi, h1]
              rw [show app (I.arg.toNat :: cs) pos c = app cs pos c by show app cs pos (if _ then _ else _) = _; rw [if_neg hi]]
          | go cs o =>
            cases h
            intro hlt c K c' hm
            rw [← Nat.add_assoc, unf]
            by_cases hi : I.arg.toNat < c.length
            · rw [if_pos hi]
              refine h1 hlt _ K c' ?_
              rw [show app (I.arg.toNat :: cs) pos c = app cs pos (c.set I.arg.toNat pos) by show app cs pos (if _ then _ else _) = _; rw [if_pos hi]] at hm
              exact hm
            · rw [if_neg hi]
              refine h1 hlt _ K c' ?_
              rw [show app (I.arg.toNat :: cs) pos c = app cs pos c by show app cs pos (if _ then _ else _) = _; rw [if_neg hi]] at hm
              exact hm
      rw [if_neg o2] at h
      by_cases o4 : I.op = 4
      · rw [if_pos o4] at h
        have hc : ctl t E I pos = .acc := by unfold ctl; rw [if_neg o0, if_neg o2, if_pos o4]
        simp only [hc] at unf
        cases h
        intro c
        rw [unf]
        rfl
      rw [if_neg o4] at h
      have through : ctl t E I pos = .go pos → lk L (pos == 0) (t pos) k I.out.toNat = some x → LkOk L t E (k + 1) pc pos x := by
        intro hc hl
        simp only [hc] at unf
        have h1 : LkOk L t E k _ pos _ := ih _ _ _ hp hl
        cases x with
        | rej => intro c; rw [unf]; exact h1 c
        | acc cs => intro c; rw [unf]; exact h1 c
        | go cs o => intro hlt c K c' hm; rw [← Nat.add_assoc, unf]; exact h1 hlt c K c' hm
      have stop : ctl t E I pos = .fail → ∀ c, mat L t E (k + 1) pc pos c = some none := by
        intro hc c
        rw [unf, hc]
      have eats : ctl t E I pos = (if pos < E then .go (pos + 1) else .bad) → (pos < E → ∀ c K c', mat L t E K I.out.toNat (pos + 1) (app [] pos c) = some (some c') → mat L t E (K + (k + 1)) pc pos c = some (some c')) := by
        intro hc hlt c K c' hm
        rw [if_pos hlt] at hc
        rw [← Nat.add_assoc, unf, hc]
        exact mat_le (show K ≤ K + k by omega) hm
      by_cases o6 : I.op = 6
      · rw [if_pos o6] at h
        exact through (by unfold ctl; rw [if_neg o0, if_neg o2, if_neg o4, if_pos o6]) h
      rw [if_neg o6] at h
      by_cases o7 : I.op = 7
      · rw [if_pos o7] at h
        by_cases hm : mrp I.rs (t pos) = -1
        · rw [if_pos hm] at h
          cases h
          exact stop (by unfold ctl; rw [if_neg o0, if_neg o2, if_neg o4, if_neg o6, if_pos o7, if_pos hm])
        · rw [if_neg hm] at h
          cases h
          exact eats (by unfold ctl; rw [if_neg o0, if_neg o2, if_neg o4, if_neg o6, if_pos o7, if_neg hm])
      rw [if_neg o7] at h
      by_cases o8 : I.op = 8
      · rw [if_pos o8] at h
        by_cases hm : t pos = rdI I.rs 0
        · rw [if_pos hm] at h
          cases h
          exact eats (by unfold ctl; rw [if_neg o0, if_neg o2, if_neg o4, if_neg o6, if_neg o7, if_pos o8, if_pos hm])
        · rw [if_neg hm] at h
          cases h
          exact stop (by unfold ctl; rw [if_neg o0, if_neg o2, if_neg o4, if_neg o6, if_neg o7, if_pos o8, if_neg hm])
      rw [if_neg o8] at h
      by_cases o3 : I.op = 3
      · rw [if_pos o3] at h
        by_cases ha : I.arg = 4
        · rw [if_pos ha] at h
          by_cases hz : pos = 0
          · rw [if_pos (by simpa using hz)] at h
            exact through (by unfold ctl; rw [if_neg o0, if_neg o2, if_neg o4, if_neg o6, if_neg o7, if_neg o8, if_pos o3, if_pos ha, if_pos hz]) h
          · rw [if_neg (by simpa using hz)] at h
            cases h
            exact stop (by unfold ctl; rw [if_neg o0, if_neg o2, if_neg o4, if_neg o6, if_neg o7, if_neg o8, if_pos o3, if_pos ha, if_neg hz])
        · rw [if_neg ha] at h
          by_cases hb : I.arg = 8
          · rw [if_pos hb] at h
            by_cases hz : t pos < 0
            · rw [if_pos hz] at h
              exact through (by unfold ctl; rw [if_neg o0, if_neg o2, if_neg o4, if_neg o6, if_neg o7, if_neg o8, if_pos o3, if_neg ha, if_pos hb, if_pos hz]) h
            · rw [if_neg hz] at h
              cases h
              exact stop (by unfold ctl; rw [if_neg o0, if_neg o2, if_neg o4, if_neg o6, if_neg o7, if_neg o8, if_pos o3, if_neg ha, if_pos hb, if_neg hz])
          · rw [if_neg hb] at h
            cases h
      · rw [if_neg o3] at h
        cases h

/-! What is known of the captures, as a list of pairs. -/
def Has (n : Nat) (c : List Int) (l : List (Nat × Int)) : Prop := c.length = n ∧ ∀ p ∈ l, rdI c (p.1 : Int) = p.2
def upd (cs : List Nat) (pos : Nat) (l : List (Nat × Int)) : List (Nat × Int) := cs.map (fun i => (i, (pos : Int))) ++ l.filter (fun p => !cs.contains p.1)
theorem rdI_get {c : List Int} {i : Nat} (h : i < c.length) : rdI c (i : Int) = c[i] := by
  simp [rdI, List.getD_eq_getElem?_getD, h]
theorem app_get : ∀ (cs : List Nat) (pos : Nat) (c : List Int) (i : Nat), i < c.length → rdI (app cs pos c) (i : Int) = if cs.contains i then (pos : Int) else rdI c (i : Int) := by
  intro cs
  induction cs with
  | nil => intro pos c i hi; rfl
  | cons j cs ih =>
    intro pos c i hi
    show rdI (app cs pos (if j < c.length then c.set j (pos : Int) else c)) (i : Int) = _
    rw [ih _ _ _ (by split <;> simpa using hi)]
    rw [List.contains_cons]
    by_cases hc : cs.contains i = true
    · rw [if_pos hc, if_pos (by rw [hc, Bool.or_true])]
    · rw [if_neg hc]
      by_cases hj : i = j
      · subst hj
        rw [if_pos hi, if_pos (by simp), rdI_get (by simpa using hi)]
        simp
      · have hn : (i == j || cs.contains i) = false := by
          rw [beq_eq_false_iff_ne.2 hj, Bool.false_or]
          simpa using hc
        rw [hn]
        simp only [Bool.false_eq_true, if_false]
        by_cases hl : j < c.length
        · rw [if_pos hl, rdI_get (by simpa using hi), rdI_get hi, List.getElem_set_ne (by omega)]
        · rw [if_neg hl]
theorem Has.app {n : Nat} {c : List Int} {l : List (Nat × Int)} (h : Has n c l) (cs : List Nat) (pos : Nat) (hcs : ∀ i ∈ cs, i < n) (hl : ∀ p ∈ l, p.1 < n) : Has n (H.app cs pos c) (upd cs pos l) := by
  refine ⟨(app_len _ _ _).trans h.1, fun p hp => ?_⟩
  unfold upd at hp
  rcases List.mem_append.1 hp with hp | hp
  · obtain ⟨i, hi, rfl⟩ := List.mem_map.1 hp
    rw [app_get cs pos c i (by rw [h.1]; exact hcs i hi), if_pos (by simpa using hi)]
  · obtain ⟨h1, h2⟩ := List.mem_filter.1 hp
    rw [app_get cs pos c p.1 (by rw [h.1]; exact hl p h1), if_neg (by simpa using h2)]
    exact h.2 p h1
/-- From an instruction and a place on the program ends with captures as told (fuel: D for each place). -/
def Acc (L : List Bi) (t : Nat → Int) (E n : Nat) (pc pos : Nat) (l l' : List (Nat × Int)) : Prop :=
  ∀ c, Has n c l → ∃ c', mat L t E (40 * (E + 1 - pos)) pc pos c = some (some c') ∧ Has n c' l'
theorem Acc.weak {n pc pos : Nat} {l l1 l' l2 : List (Nat × Int)} (h : Acc L t E n pc pos l1 l') (hl : ∀ p ∈ l1, p ∈ l) (hl' : ∀ p ∈ l2, p ∈ l') : Acc L t E n pc pos l l2 := by
  intro c hc
  obtain ⟨c', h1, h2⟩ := h c ⟨hc.1, fun p hp => hc.2 p (hl p hp)⟩
  exact ⟨c', h1, h2.1, fun p hp => h2.2 p (hl' p hp)⟩
theorem Acc.step {n pc pos o : Nat} {cs : List Nat} {l l' : List (Nat × Int)} (hlt : pos < E) (hk : lk L (pos == 0) (t pos) 40 pc = some (.go cs o)) (hcs : ∀ i ∈ cs, i < n) (hl : ∀ p ∈ l, p.1 < n)
    (h : Acc L t E n o (pos + 1) (upd cs pos l) l') : Acc L t E n pc pos l l' := by
  intro c hc
  obtain ⟨c', h1, h2⟩ := h _ (hc.app cs pos hcs hl)
  refine ⟨c', ?_, h2⟩
  rw [show 40 * (E + 1 - pos) = 40 * (E + 1 - (pos + 1)) + 40 by omega]
  exact lk_does 40 pc pos _ (by omega) hk hlt c _ c' h1
theorem Acc.fin {n pc pos : Nat} {cs : List Nat} {l : List (Nat × Int)} (hle : pos ≤ E) (hn : 1 < n) (hk : lk L (pos == 0) (t pos) 40 pc = some (.acc cs)) (hcs : ∀ i ∈ cs, i < n) (hl : ∀ p ∈ l, p.1 < n) :
    Acc L t E n pc pos l (upd [1] pos (upd cs pos l)) := by
  intro c hc
  have h1 := hc.app cs pos hcs hl
  have h2 := h1.app [1] pos (by simpa using hn) (fun p hp => by
    unfold upd at hp
    rcases List.mem_append.1 hp with hp | hp
    · obtain ⟨i, hi, rfl⟩ := List.mem_map.1 hp
      exact hcs i hi
    · exact hl p (List.mem_filter.1 hp).1)
  refine ⟨_, ?_, h2⟩
  have h3 := lk_does 40 pc pos _ hle hk c
  rw [mat_le (show 40 ≤ 40 * (E + 1 - pos) by omega) h3]
  congr 2
  rw [if_pos (by rw [hc.1]; exact hn)]
  show _ = (if 1 < (H.app cs pos c).length then (H.app cs pos c).set 1 (pos : Int) else _)
  rw [if_pos (by rw [app_len, hc.1]; exact hn)]
/-- A run of runes that leave the program where it is, and capture nothing that is told. -/
theorem Acc.loop {n pc pos : Nat} {l l' : List (Nat × Int)} (hl : ∀ p ∈ l, p.1 < n) : ∀ (m : Nat), pos + m ≤ E → (∀ j, pos ≤ j → j < pos + m → lk L (j == 0) (t j) 40 pc = some (.go [] pc)) → Acc L t E n pc (pos + m) l l' → Acc L t E n pc pos l l' := by
  intro m
  induction m generalizing pos with
  | zero => intro _ _ h; exact h
  | succ m ih =>
    intro hE hk h
    refine Acc.step (by omega) (hk pos (Nat.le_refl _) (by omega)) (by simp) hl ?_
    have e : upd [] pos l = l := by simp [upd]
    rw [e]
    refine ih (by omega) (fun j h1 h2 => hk j (by omega) (by omega)) ?_
    rwa [show pos + 1 + m = pos + (m + 1) by omega]
end
end Go.Proofs.YtekkaknpgdgjjaaGreatDoor.H
