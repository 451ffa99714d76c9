/- The expression of one comparison: which texts it takes, and what it captures. -/
import Derived.Test.YtekkaknpgdgjjaaGreatDoorHaLooseW1
namespace Go.Proofs.YtekkaknpgdgjjaaGreatDoor.H
open Go.RowKit
set_option linter.unusedVariables false
set_option linter.unusedSimpArgs false
set_option linter.unnecessarySimpa false

def consL : List Bi :=
   [⟨5, 0, 0, []⟩,
    ⟨3, 3, 4, []⟩,
    ⟨7, 3, 0, [9, 10, 12, 13, 32, 32]⟩,
    ⟨0, 2, 4, []⟩,
    ⟨2, 31, 2, []⟩,
    ⟨8, 32, 0, [61]⟩,
    ⟨6, 32, 0, []⟩,
    ⟨0, 5, 6, []⟩,
    ⟨8, 9, 0, [33]⟩,
    ⟨8, 32, 0, [61]⟩,
    ⟨0, 7, 8, []⟩,
    ⟨7, 32, 0, [60, 60, 62, 62]⟩,
    ⟨0, 10, 11, []⟩,
    ⟨8, 14, 0, [62]⟩,
    ⟨8, 32, 0, [61]⟩,
    ⟨0, 12, 13, []⟩,
    ⟨8, 17, 0, [61]⟩,
    ⟨8, 32, 0, [62]⟩,
    ⟨0, 15, 16, []⟩,
    ⟨8, 20, 0, [60]⟩,
    ⟨8, 32, 0, [61]⟩,
    ⟨0, 18, 19, []⟩,
    ⟨8, 23, 0, [61]⟩,
    ⟨8, 32, 0, [60]⟩,
    ⟨0, 21, 22, []⟩,
    ⟨8, 28, 0, [126]⟩,
    ⟨6, 32, 0, []⟩,
    ⟨8, 32, 0, [62]⟩,
    ⟨0, 26, 27, []⟩,
    ⟨0, 24, 25, []⟩,
    ⟨8, 32, 0, [94]⟩,
    ⟨0, 29, 30, []⟩,
    ⟨2, 34, 3, []⟩,
    ⟨7, 34, 0, [9, 10, 12, 13, 32, 32]⟩,
    ⟨0, 33, 35, []⟩,
    ⟨2, 37, 4, []⟩,
    ⟨8, 38, 0, [118]⟩,
    ⟨0, 36, 38, []⟩,
    ⟨2, 39, 6, []⟩,
    ⟨7, 40, 0, [42, 42, 48, 57, 88, 88, 120, 120, 124, 124]⟩,
    ⟨0, 39, 41, []⟩,
    ⟨2, 47, 7, []⟩,
    ⟨2, 43, 8, []⟩,
    ⟨8, 44, 0, [46]⟩,
    ⟨7, 45, 0, [42, 42, 48, 57, 88, 88, 120, 120, 124, 124]⟩,
    ⟨0, 44, 46, []⟩,
    ⟨2, 53, 9, []⟩,
    ⟨0, 42, 53, []⟩,
    ⟨2, 49, 10, []⟩,
    ⟨8, 50, 0, [46]⟩,
    ⟨7, 51, 0, [42, 42, 48, 57, 88, 88, 120, 120, 124, 124]⟩,
    ⟨0, 50, 52, []⟩,
    ⟨2, 67, 11, []⟩,
    ⟨0, 48, 67, []⟩,
    ⟨2, 55, 12, []⟩,
    ⟨8, 56, 0, [45]⟩,
    ⟨2, 57, 14, []⟩,
    ⟨7, 58, 0, [45, 45, 48, 57, 65, 90, 97, 122]⟩,
    ⟨0, 57, 64, []⟩,
    ⟨2, 60, 16, []⟩,
    ⟨8, 61, 0, [46]⟩,
    ⟨7, 62, 0, [45, 45, 48, 57, 65, 90, 97, 122]⟩,
    ⟨0, 61, 63, []⟩,
    ⟨2, 64, 17, []⟩,
    ⟨0, 59, 65, []⟩,
    ⟨2, 66, 15, []⟩,
    ⟨2, 81, 13, []⟩,
    ⟨0, 54, 81, []⟩,
    ⟨2, 69, 18, []⟩,
    ⟨8, 70, 0, [43]⟩,
    ⟨2, 71, 20, []⟩,
    ⟨7, 72, 0, [45, 45, 48, 57, 65, 90, 97, 122]⟩,
    ⟨0, 71, 78, []⟩,
    ⟨2, 74, 22, []⟩,
    ⟨8, 75, 0, [46]⟩,
    ⟨7, 76, 0, [45, 45, 48, 57, 65, 90, 97, 122]⟩,
    ⟨0, 75, 77, []⟩,
    ⟨2, 78, 23, []⟩,
    ⟨0, 73, 79, []⟩,
    ⟨2, 80, 21, []⟩,
    ⟨2, 82, 19, []⟩,
    ⟨0, 68, 82, []⟩,
    ⟨2, 84, 5, []⟩,
    ⟨7, 84, 0, [9, 10, 12, 13, 32, 32]⟩,
    ⟨0, 83, 85, []⟩,
    ⟨3, 86, 8, []⟩,
    ⟨4, 0, 0, []⟩]

/-! One rune more is looked at. -/
/-- As lk; a rune is not taken where the program fails right behind it, at the rune r2. -/
def lk2 (L : List Bi) (z : Bool) (r r2 : Int) : Nat → Nat → Option Lk
  | 0, _ => none
  | k + 1, pc => match L[pc]? with
    | none => none
    | some I =>
      if I.op = 0 then (match lk2 L z r r2 k I.out.toNat with
        | some .rej => lk2 L z r r2 k I.arg.toNat
        | x => x)
      else if I.op = 2 then (match lk2 L z r r2 k I.out.toNat with
        | some (.go cs o) => some (.go (I.arg.toNat :: cs) o)
        | some .rej => some .rej
        | _ => none)
      else if I.op = 6 then lk2 L z r r2 k I.out.toNat
      else if I.op = 7 then (if mrp I.rs r = -1 then some .rej else if lk L false r2 40 I.out.toNat = some .rej then some .rej else some (.go [] I.out.toNat))
      else if I.op = 8 then (if r = rdI I.rs 0 then (if lk L false r2 40 I.out.toNat = some .rej then some .rej else some (.go [] I.out.toNat)) else some .rej)
      else none
section
variable {L : List Bi} {t : Nat → Int} {E : Nat}
theorem lk2_does {pos : Nat} (hlt : pos < E) : ∀ (k pc : Nat) (x : Lk), lk2 L (pos == 0) (t pos) (t (pos + 1)) k pc = some x →
    LkOk L t E (40 + k) pc pos x := by
  intro k
  induction k with
  | zero => intro pc x h; cases h
  | succ k ih =>
    intro pc x h
    rw [lk2] at h
    cases hI : L[pc]? with
    | none => rw [hI] at h; cases h
    | some I =>
      rw [hI] at h
      dsimp only at h
      show LkOk L t E (40 + k + 1) pc pos x
      have unf : ∀ n c, mat L t E (n + 1) pc pos c = (match ctl t E I pos with
        | .bad => none
        | .fail => some none
        | .acc => some (some (if 1 < c.length then c.set 1 pos else c))
        | .alt => match mat L t E n I.out.toNat pos c with
          | some none => mat L t E n I.arg.toNat pos c
          | r => r
        | .cap => if I.arg.toNat < c.length then mat L t E n I.out.toNat pos (c.set I.arg.toNat pos) else mat L t E n I.out.toNat pos c
        | .go pos' => mat L t E n I.out.toNat pos' c) := by
        intro n c
        rw [mat, hI]
        rfl
      by_cases o0 : I.op = 0
      · rw [if_pos o0] at h
        have hc : ctl t E I pos = .alt := by unfold ctl; rw [if_pos o0]
        simp only [hc] at unf
        cases hl : lk2 L (pos == 0) (t pos) (t (pos + 1)) k I.out.toNat with
        | none => rw [hl] at h; cases h
        | some y =>
          rw [hl] at h
          have h1 : LkOk L t E (40 + k) _ pos _ := ih _ _ hl
          cases y with
          | rej =>
            dsimp only at h h1
            have h2 := ih _ _ h
            cases x with
            | rej => intro c; rw [unf, h1 c]; exact h2 c
            | acc cs => intro c; rw [unf, h1 c]; exact h2 c
            | go cs o =>
              intro hlt c K c' hm
              rw [← Nat.add_assoc, unf]
              rw [mat_le (show 40 + k ≤ K + (40 + k) by omega) (h1 c)]
              exact h2 hlt c K c' hm
          | acc cs =>
            cases h
            intro c
            rw [unf, h1 c]
          | go cs o =>
            cases h
            intro hlt c K c' hm
            rw [← Nat.add_assoc, unf, h1 hlt c K c' hm]
      rw [if_neg o0] at h
      by_cases o2 : I.op = 2
      · rw [if_pos o2] at h
        have hc : ctl t E I pos = .cap := by unfold ctl; rw [if_neg o0, if_pos o2]
        simp only [hc] at unf
        cases hl : lk2 L (pos == 0) (t pos) (t (pos + 1)) k I.out.toNat with
        | none => rw [hl] at h; cases h
        | some y =>
          rw [hl] at h
          have h1 : LkOk L t E (40 + k) _ pos _ := ih _ _ hl
          cases y with
          | rej =>
            cases h
            intro c
            rw [unf]
            split
            · exact h1 _
            · exact h1 _
          | acc cs => cases h
          | go cs o =>
            cases h
            intro hlt c K c' hm
            rw [← Nat.add_assoc, unf]
            by_cases hi : I.arg.toNat < c.length
            · rw [if_pos hi]
              refine h1 hlt _ K c' ?_
              rw [show app (I.arg.toNat :: cs) pos c = app cs pos (c.set I.arg.toNat pos) by show app cs pos (if _ then _ else _) = _; rw [if_pos hi]] at hm
              exact hm
            · rw [if_neg hi]
              refine h1 hlt _ K c' ?_
              rw [show app (I.arg.toNat :: cs) pos c = app cs pos c by show app cs pos (if _ then _ else _) = _; rw [if_neg hi]] at hm
              exact hm
      rw [if_neg o2] at h
      have stop : ctl t E I pos = .fail → ∀ c, mat L t E (40 + k + 1) pc pos c = some none := by
        intro hc c
        rw [unf, hc]
      have eats : ctl t E I pos = (if pos < E then .go (pos + 1) else .bad) → (if lk L false (t (pos + 1)) 40 I.out.toNat = some .rej then some Lk.rej else some (.go [] I.out.toNat)) = some x → LkOk L t E (40 + k + 1) pc pos x := by
        intro hc hx
        rw [if_pos hlt] at hc
        by_cases hf : lk L false (t (pos + 1)) 40 I.out.toNat = some .rej
        · rw [if_pos hf] at hx
          cases hx
          intro c
          rw [unf, hc]
          have e : (pos + 1 == 0) = false := by simp
          have hr := lk_does (L := L) (t := t) (E := E) 40 I.out.toNat (pos + 1) .rej (by omega) (by rw [e]; exact hf)
          exact mat_le (show 40 ≤ 40 + k by omega) (hr c)
        · rw [if_neg hf] at hx
          cases hx
          intro _ c K c' hm
          rw [← Nat.add_assoc, unf, hc]
          exact mat_le (show K ≤ K + (40 + k) by omega) hm
      by_cases o6 : I.op = 6
      · rw [if_pos o6] at h
        have o4 : I.op ≠ 4 := by rw [o6]; decide
        have hc : ctl t E I pos = .go pos := by unfold ctl; rw [if_neg o0, if_neg o2, if_neg o4, if_pos o6]
        simp only [hc] at unf
        have h1 : LkOk L t E (40 + k) _ pos _ := ih _ _ h
        cases x with
        | rej => intro c; rw [unf]; exact h1 c
        | acc cs => intro c; rw [unf]; exact h1 c
        | go cs o => intro hlt c K c' hm; rw [← Nat.add_assoc, unf]; exact h1 hlt c K c' hm
      rw [if_neg o6] at h
      by_cases o7 : I.op = 7
      · rw [if_pos o7] at h
        have o4 : I.op ≠ 4 := by rw [o7]; decide
        by_cases hm : mrp I.rs (t pos) = -1
        · rw [if_pos hm] at h
          cases h
          exact stop (by unfold ctl; rw [if_neg o0, if_neg o2, if_neg o4, if_neg o6, if_pos o7, if_pos hm])
        · rw [if_neg hm] at h
          exact eats (by unfold ctl; rw [if_neg o0, if_neg o2, if_neg o4, if_neg o6, if_pos o7, if_neg hm]) h
      rw [if_neg o7] at h
      by_cases o8 : I.op = 8
      · rw [if_pos o8] at h
        have o4 : I.op ≠ 4 := by rw [o8]; decide
        by_cases hm : t pos = rdI I.rs 0
        · rw [if_pos hm] at h
          exact eats (by unfold ctl; rw [if_neg o0, if_neg o2, if_neg o4, if_neg o6, if_neg o7, if_pos o8, if_pos hm]) h
        · rw [if_neg hm] at h
          cases h
          exact stop (by unfold ctl; rw [if_neg o0, if_neg o2, if_neg o4, if_neg o6, if_neg o7, if_pos o8, if_neg hm])
      rw [if_neg o8] at h
      cases h
end

/-! From an instruction and a place on the program ends; told are the captures from the 2nd to the 13th. -/
def up (cs : List Nat) (p : Nat) (a : Nat → Int) : Nat → Int := fun i => if cs.contains i then (p : Int) else a i
theorem up_app (cs ds : List Nat) (p : Nat) (a : Nat → Int) : up (cs ++ ds) p a = up ds p (up cs p a) := by
  funext i
  unfold up
  by_cases h1 : i ∈ cs <;> by_cases h2 : i ∈ ds <;> simp [h1, h2]
def AccF (t : Nat → Int) (E pc pos : Nat) (a a' : Nat → Int) : Prop := ∀ c : List Int, c.length = 24 → (∀ i : Nat, 2 ≤ i → i < 14 → rdI c (i : Int) = a i) →
  ∃ c', mat consL t E (80 * (E + 1 - pos)) pc pos c = some (some c') ∧ c'.length = 24 ∧ ∀ i : Nat, 2 ≤ i → i < 14 → rdI c' (i : Int) = a' i
def outside (cs : List Nat) : Bool := cs.all fun i => decide (i < 2) || decide (14 ≤ i)
theorem up_out {cs : List Nat} (h : outside cs = true) (p : Nat) (a : Nat → Int) {i : Nat} (h2 : 2 ≤ i) (h14 : i < 14) : up cs p a i = a i := by
  unfold up
  rw [if_neg]
  intro hc
  have := List.all_eq_true.1 h i (by simpa using hc)
  rw [Bool.or_eq_true, decide_eq_true_eq, decide_eq_true_eq] at this
  omega
section
variable {t : Nat → Int} {E pc pos o : Nat} {cs : List Nat} {a a' b : Nat → Int}
theorem AccF.same (h : AccF t E pc pos b a') (hb : ∀ i : Nat, 2 ≤ i → i < 14 → b i = a i) : AccF t E pc pos a a' := fun c hc hl => h c hc fun i h2 h14 => (hl i h2 h14).trans (hb i h2 h14).symm
theorem AccF.to (h : AccF t E pc pos a b) (hb : ∀ i : Nat, 2 ≤ i → i < 14 → b i = a' i) : AccF t E pc pos a a' := by
  intro c hc hl
  obtain ⟨c', h1, h2, h3⟩ := h c hc hl
  exact ⟨c', h1, h2, fun i h2 h14 => (h3 i h2 h14).trans (hb i h2 h14)⟩
theorem app_up {c : List Int} (hc : c.length = 24) (hl : ∀ i : Nat, 2 ≤ i → i < 14 → rdI c (i : Int) = a i) : ∀ i : Nat, 2 ≤ i → i < 14 → rdI (app cs pos c) (i : Int) = up cs pos a i := by
  intro i h2 h14
  rw [app_get cs pos c i (by omega), hl i h2 h14]
  rfl
theorem AccF.step (hlt : pos < E) (hk : lk consL (pos == 0) (t pos) 40 pc = some (.go cs o)) (h : AccF t E o (pos + 1) (up cs pos a) a') : AccF t E pc pos a a' := by
  intro c hc hl
  obtain ⟨c', h1, h2⟩ := h _ ((app_len cs pos c).trans hc) (app_up hc hl)
  refine ⟨c', ?_, h2⟩
  exact mat_le (show 80 * (E + 1 - (pos + 1)) + 40 ≤ 80 * (E + 1 - pos) by omega) (lk_does 40 pc pos _ (by omega) hk hlt c _ c' h1)
theorem AccF.step2 (hlt : pos < E) (hk : lk2 consL (pos == 0) (t pos) (t (pos + 1)) 40 pc = some (.go cs o)) (h : AccF t E o (pos + 1) (up cs pos a) a') : AccF t E pc pos a a' := by
  intro c hc hl
  obtain ⟨c', h1, h2⟩ := h _ ((app_len cs pos c).trans hc) (app_up hc hl)
  refine ⟨c', ?_, h2⟩
  exact mat_le (show 80 * (E + 1 - (pos + 1)) + (40 + 40) ≤ 80 * (E + 1 - pos) by omega) (lk2_does hlt 40 pc _ hk hlt c _ c' h1)
theorem AccF.fin (hle : pos ≤ E) (hk : lk consL (pos == 0) (t pos) 40 pc = some (.acc cs)) : AccF t E pc pos a (up cs pos a) := by
  intro c hc hl
  have h3 := lk_does 40 pc pos _ hle hk c
  rw [if_pos (by omega)] at h3
  refine ⟨_, mat_le (show 40 ≤ 80 * (E + 1 - pos) by omega) h3, by rw [List.length_set, app_len, hc], fun i h2 h14 => ?_⟩
  rw [rdI_get (by rw [List.length_set, app_len, hc]; omega), List.getElem_set_ne (by omega), ← rdI_get]
  exact app_up hc hl i h2 h14
theorem AccF.pass (hlt : pos < E) (hk : lk consL (pos == 0) (t pos) 40 pc = some (.go cs o)) (ho : outside cs = true) (h : AccF t E o (pos + 1) a a') : AccF t E pc pos a a' :=
  AccF.step hlt hk (h.same fun i h2 h14 => (up_out ho pos a h2 h14).symm)
end

/-! Bytes -/
def isb (n : Nat) : Bool := n == 9 || n == 10 || n == 12 || n == 13 || n == 32
def ptB (n : Nat) : Bool := numB n || n == 88 || n == 120 || n == 42
theorem isb_lt {n : Nat} (h : isb n = true) : n < 128 := by
  simp only [isb, Bool.or_eq_true, beq_iff_eq] at h
  omega
theorem ptB_lt {n : Nat} (h : ptB n = true) : n < 128 := by
  simp only [ptB, numB, Bool.or_eq_true, Bool.and_eq_true, decide_eq_true_eq, beq_iff_eq] at h
  omega
def chkC (q : Nat) (cls : Nat → Bool) (cs : List Nat) (o : Nat) : Bool := (List.range 128).all fun b => !cls b || (decide (lk consL false (b : Int) 40 q = some (.go cs o)) && decide (lk consL true (b : Int) 40 q = some (.go cs o)))
def chkE (q : Nat) (cs : List Nat) : Bool := decide (lk consL false (-1) 40 q = some (.acc cs)) && decide (lk consL true (-1) 40 q = some (.acc cs))
section
variable {T : List UInt8}
theorem tabC {q o p : Nat} {cls : Nat → Bool} {cs : List Nat} (h : chkC q cls cs o = true) {x : UInt8} (hx : txt T p = (x.toNat : Int)) (hc : cls x.toNat = true) (h7 : x.toNat < 128) : lk consL (p == 0) (txt T p) 40 q = some (.go cs o) := by
  have := List.all_eq_true.1 h x.toNat (List.mem_range.2 h7)
  rw [hc, Bool.not_true, Bool.false_or, Bool.and_eq_true, decide_eq_true_eq, decide_eq_true_eq] at this
  rw [hx]
  cases (p == 0)
  · exact this.1
  · exact this.2
theorem tabE {q p : Nat} {cs : List Nat} (h : chkE q cs = true) (hx : txt T p = -1) : lk consL (p == 0) (txt T p) 40 q = some (.acc cs) := by
  unfold chkE at h
  rw [Bool.and_eq_true, decide_eq_true_eq, decide_eq_true_eq] at h
  rw [hx]
  cases (p == 0)
  · exact h.1
  · exact h.2
/-- A run of bytes that leave the program where it is. -/
theorem run_acc {q : Nat} {cls : Nat → Bool} (hq : chkC q cls [] q = true) (h7 : ∀ n, cls n = true → n < 128) {R : List UInt8} {a a' : Nat → Int} : ∀ (D : List UInt8) (p : Nat), T.drop p = D ++ R → (∀ x ∈ D, cls x.toNat = true) → AccF (txt T) T.length q (p + D.length) a a' → AccF (txt T) T.length q p a a' := by
  intro D
  induction D with
  | nil => intro p _ _ h; exact h
  | cons x D ih =>
    intro p hd hD h
    obtain ⟨hx, hlt, hd'⟩ := txt_head (R := D ++ R) hd
    have hc := hD x (List.mem_cons_self ..)
    refine AccF.pass hlt (tabC hq hx hc (h7 _ hc)) rfl (ih (p + 1) hd' (fun y hy => hD y (List.mem_cons_of_mem _ hy)) ?_)
    rw [List.length_cons] at h
    rwa [show p + 1 + D.length = p + (D.length + 1) by omega]
theorem drop_add {p : Nat} {D R : List UInt8} (h : T.drop p = D ++ R) : T.drop (p + D.length) = R := by
  rw [← List.drop_drop, h, List.drop_left]
/-- Blanks up to the end. -/
theorem blanks_acc {b2 : List UInt8} {p : Nat} {a : Nat → Int} (hp : p ≤ T.length) (hd : T.drop p = b2) (hb : ∀ x ∈ b2, isb x.toNat = true) : AccF (txt T) T.length 84 p a a := by
  have hd' : T.drop p = b2 ++ [] := by rw [hd, List.append_nil]
  refine run_acc (q := 84) (cls := isb) (by kernel_rfl) (fun n h => isb_lt h) b2 p hd' hb ?_
  have e := drop_add hd'
  have hl : p + b2.length = T.length := by
    have := congrArg List.length hd
    rw [List.length_drop] at this
    omega
  rw [hl]
  exact (AccF.fin (Nat.le_refl _) (tabE (cs := []) (by kernel_rfl) txt_end)).to (fun i h2 h14 => rfl)
theorem end_acc2 {q p : Nat} {cs : List Nat} {b2 : List UInt8} {a : Nat → Int} (hp : p ≤ T.length) (hd : T.drop p = b2) (hb : ∀ x ∈ b2, isb x.toNat = true) (he : chkE q cs = true) (hg : chkC q isb cs 84 = true) : AccF (txt T) T.length q p a (up cs p a) := by
  cases b2 with
  | nil =>
    have := txt_nil hd hp
    subst this
    exact AccF.fin (Nat.le_refl _) (tabE he txt_end)
  | cons x r =>
    obtain ⟨hx, hlt, hd'⟩ := txt_head hd
    have hc := hb x (List.mem_cons_self ..)
    exact AccF.step hlt (tabC hg hx hc (isb_lt hc)) (blanks_acc hlt hd' fun y hy => hb y (List.mem_cons_of_mem _ hy))
/-- The metadata that is written. -/
def metaB : List UInt8 := [43, 98, 46, 48, 49]
def isMt (mt : List UInt8) : Prop := mt = [] ∨ mt = metaB
theorem at1 {p : Nat} {x : UInt8} {R : List UInt8} {q o : Nat} {cs : List Nat} {a a' : Nat → Int} (hd : T.drop p = x :: R) (h7 : x.toNat < 128) (h : chkC q (fun b => b == x.toNat) cs o = true) (k : p < T.length → T.drop (p + 1) = R → AccF (txt T) T.length o (p + 1) (up cs p a) a') : AccF (txt T) T.length q p a a' := by
  obtain ⟨hx, hlt, hd'⟩ := txt_head hd
  exact AccF.step hlt (tabC h hx (by simp) h7) (k hlt hd')
/-- Behind the numbers and the prerelease: metadata or none, and blanks. -/
theorem after_acc {q p : Nat} {cs : List Nat} {mt b2 : List UInt8} {a : Nat → Int} (hp : p ≤ T.length) (hd : T.drop p = mt ++ b2) (hm : isMt mt) (hb : ∀ x ∈ b2, isb x.toNat = true) (he : chkE q (cs ++ [5]) = true) (hg : chkC q isb (cs ++ [5]) 84 = true) (hpl : chkC q (fun b => b == 43) (cs ++ [18]) 70 = true) :
    AccF (txt T) T.length q p a (up [5] (p + mt.length) (up cs p a)) := by
  rcases hm with rfl | rfl
  · show AccF (txt T) T.length q p a (up [5] p (up cs p a))
    rw [← up_app]
    exact end_acc2 hp hd hb he hg
  · refine at1 (x := 43) hd (by decide) hpl fun _ hd => ?_
    refine at1 (q := 70) (x := 98) (cs := [20]) (o := 72) hd (by decide) (by kernel_rfl) fun _ hd => ?_
    refine at1 (q := 72) (x := 46) (cs := [22]) (o := 75) hd (by decide) (by kernel_rfl) fun _ hd => ?_
    refine at1 (q := 75) (x := 48) (cs := []) (o := 76) hd (by decide) (by kernel_rfl) fun _ hd => ?_
    refine at1 (q := 76) (x := 49) (cs := []) (o := 76) hd (by decide) (by kernel_rfl) fun hlt hd => ?_
    refine (end_acc2 (cs := [23, 21, 19, 5]) hlt hd hb (by kernel_rfl) (by kernel_rfl)).to fun i h2 h14 => ?_
    rw [up_app]
    have h5 : ∀ n, n ≥ 14 → (i == n) = false := fun n hn => beq_eq_false_iff_ne.2 (by omega)
    simp [up, metaB, h5]
    repeat' split
    all_goals first | rfl | omega
/-- The words of a prerelease. -/
theorem words_acc {X : List UInt8} {a a' : Nat → Int} : ∀ (m : List UInt8) (p : Nat), T.drop p = m ++ X → AccF (txt T) T.length 58 (p + m.length) a a' → AccF (txt T) T.length 62 (p + m.length) a a' →
    (wds false m = true → AccF (txt T) T.length 58 p a a' ∧ AccF (txt T) T.length 62 p a a') ∧ (wds true m = true → AccF (txt T) T.length 61 p a a') := by
  intro m
  induction m with
  | nil => intro p _ h1 h2; exact ⟨fun _ => ⟨h1, h2⟩, fun h => by cases h⟩
  | cons x m ih =>
    intro p hd h1 h2
    obtain ⟨hx, hlt, hd'⟩ := txt_head (R := m ++ X) hd
    rw [List.length_cons] at h1 h2
    have n := ih (p + 1) hd' (by rwa [show p + 1 + m.length = p + (m.length + 1) by omega]) (by rwa [show p + 1 + m.length = p + (m.length + 1) by omega])
    rw [wds, wds]
    by_cases hi : idB x.toNat = true
    · rw [if_pos hi, if_pos hi]
      have h7 := idB_lt hi
      refine ⟨fun h => ⟨?_, ?_⟩, fun h => ?_⟩
      · exact AccF.pass hlt (tabC (q := 58) (cls := idB) (cs := []) (o := 58) (by kernel_rfl) hx hi h7) rfl (n.1 h).1
      · exact AccF.pass hlt (tabC (q := 62) (cls := idB) (cs := []) (o := 62) (by kernel_rfl) hx hi h7) rfl (n.1 h).2
      · exact AccF.pass hlt (tabC (q := 61) (cls := idB) (cs := []) (o := 62) (by kernel_rfl) hx hi h7) rfl (n.1 h).2
    · rw [if_neg hi, if_neg hi]
      by_cases h46 : x.toNat = 46
      · rw [if_pos ⟨h46, rfl⟩, if_neg (by simp)]
        have h7 : x.toNat < 128 := by omega
        have hc : (fun b => b == 46) x.toNat = true := by simpa using h46
        refine ⟨fun h => ⟨?_, ?_⟩, fun h => by cases h⟩
        · exact AccF.pass hlt (tabC (q := 58) (cls := fun b => b == 46) (cs := [16]) (o := 61) (by kernel_rfl) hx hc h7) rfl (n.2 h)
        · exact AccF.pass hlt (tabC (q := 62) (cls := fun b => b == 46) (cs := [17, 16]) (o := 61) (by kernel_rfl) hx hc h7) rfl (n.2 h)
      · rw [if_neg (fun h => h46 h.1), if_neg (fun h => h46 h.1)]
        exact ⟨fun h => (by cases h), fun h => (by cases h)⟩
/-- What stands behind the numbers. -/
def dash (pre : List UInt8) : List UInt8 := if pre = [] then [] else 45 :: pre
def tlA (cs : List Nat) (p : Nat) (pre mt : List UInt8) (a : Nat → Int) : Nat → Int := up [5] (p + (dash pre).length + mt.length) (if pre = [] then up cs p a else up [13] (p + (dash pre).length) (up (cs ++ [12]) p a))
theorem tail_acc {q p : Nat} {cs : List Nat} {pre mt b2 : List UInt8} {a : Nat → Int} (hp : p ≤ T.length) (hd : T.drop p = dash pre ++ (mt ++ b2)) (hw : pre = [] ∨ wds true pre = true) (hm : isMt mt) (hb : ∀ x ∈ b2, isb x.toNat = true)
    (he : chkE q (cs ++ [5]) = true) (hg : chkC q isb (cs ++ [5]) 84 = true) (hpl : chkC q (fun b => b == 43) (cs ++ [18]) 70 = true) (hmi : chkC q (fun b => b == 45) (cs ++ [12]) 56 = true) :
    AccF (txt T) T.length q p a (tlA cs p pre mt a) := by
  unfold tlA
  by_cases h0 : pre = []
  · subst h0
    rw [if_pos rfl]
    exact after_acc (by exact hp) hd hm hb he hg hpl
  · rw [if_neg h0]
    have ed : dash pre = 45 :: pre := by unfold dash; rw [if_neg h0]
    rw [ed] at hd ⊢
    rcases hw with h | hw
    · exact absurd h h0
    refine at1 (x := 45) (R := pre ++ (mt ++ b2)) hd (by decide) hmi fun hlt hd => ?_
    generalize up (cs ++ [12]) p a = a1
    have hle : p + 1 + pre.length ≤ T.length := by
      have := congrArg List.length hd
      rw [List.length_drop, List.length_append] at this
      omega
    have hd2 := drop_add hd
    have k58 : AccF (txt T) T.length 58 (p + 1 + pre.length) a1 (up [5] (p + 1 + pre.length + mt.length) (up [13] (p + 1 + pre.length) a1)) := by
      refine (after_acc (cs := [15, 13]) hle hd2 hm hb (by kernel_rfl) (by kernel_rfl) (by kernel_rfl)).to fun i h2 h14 => ?_
      have h5 : ∀ n, n ≥ 14 → (i == n) = false := fun n hn => beq_eq_false_iff_ne.2 (by omega)
      simp [up, h5]
      repeat' split
      all_goals first | rfl | omega
    have k62 : AccF (txt T) T.length 62 (p + 1 + pre.length) a1 (up [5] (p + 1 + pre.length + mt.length) (up [13] (p + 1 + pre.length) a1)) := by
      refine (after_acc (cs := [17, 15, 13]) hle hd2 hm hb (by kernel_rfl) (by kernel_rfl) (by kernel_rfl)).to fun i h2 h14 => ?_
      have h5 : ∀ n, n ≥ 14 → (i == n) = false := fun n hn => beq_eq_false_iff_ne.2 (by omega)
      simp [up, h5]
      repeat' split
      all_goals first | rfl | omega
    rw [List.length_cons, show p + (pre.length + 1) = p + 1 + pre.length by omega]
    cases pre with
    | nil => exact absurd rfl h0
    | cons x m =>
      obtain ⟨hx, hlt, hd'⟩ := txt_head (R := m ++ (mt ++ b2)) hd
      rw [wds] at hw
      by_cases hi : idB x.toNat = true
      · rw [if_pos hi] at hw
        refine AccF.pass hlt (tabC (q := 56) (cls := idB) (cs := [14]) (o := 58) (by kernel_rfl) hx hi (idB_lt hi)) rfl ?_
        rw [List.length_cons, show p + 1 + (m.length + 1) = p + 1 + 1 + m.length by omega] at k58 k62 ⊢
        exact ((words_acc m (p + 1 + 1) hd' k58 k62).1 hw).1
      · rw [if_neg hi, if_neg (by simp)] at hw
        cases hw

/-! The numbers -/
theorem parts_acc {q : Nat} {D R : List UInt8} {p : Nat} {a a' : Nat → Int} (hq : chkC q ptB [] q = true) (hd : T.drop p = D ++ R) (hD : ∀ x ∈ D, ptB x.toNat = true) (h : AccF (txt T) T.length q (p + D.length) a a') : AccF (txt T) T.length q p a a' :=
  run_acc hq (fun n h => ptB_lt h) D p hd hD h
/-- A point and a number. -/
theorem point_acc {q o : Nat} {cs : List Nat} {d R : List UInt8} {p : Nat} {a a' : Nat → Int} (hd : T.drop p = 46 :: (d ++ R)) (hne : d ≠ []) (hD : ∀ x ∈ d, ptB x.toNat = true)
    (hg : chkC q (fun b => b == 46) cs o = true) (ho : chkC o ptB [] (o + 1) = true) (hq : chkC (o + 1) ptB [] (o + 1) = true)
    (h : AccF (txt T) T.length (o + 1) (p + 1 + d.length) (up cs p a) a') : AccF (txt T) T.length q p a a' := by
  refine at1 (x := 46) hd (by decide) hg fun hlt hd => ?_
  cases d with
  | nil => exact absurd rfl hne
  | cons y d =>
    obtain ⟨hy, hlt2, hd2⟩ := txt_head (R := d ++ R) hd
    have hny := hD y (List.mem_cons_self ..)
    refine AccF.pass hlt2 (tabC ho hy hny (ptB_lt hny)) rfl ?_
    refine parts_acc hq hd2 (fun x hx => hD x (List.mem_cons_of_mem _ hx)) ?_
    rw [List.length_cons] at h
    rwa [show p + 1 + 1 + d.length = p + 1 + (d.length + 1) by omega]
theorem num1_acc {p : Nat} {pre mt b2 : List UInt8} {a : Nat → Int} (hp : p ≤ T.length) (hd : T.drop p = dash pre ++ (mt ++ b2)) (hw : pre = [] ∨ wds true pre = true) (hm : isMt mt) (hb : ∀ x ∈ b2, isb x.toNat = true) :
    AccF (txt T) T.length 40 p a (tlA [7] p pre mt a) :=
  tail_acc hp hd hw hm hb (by kernel_rfl) (by kernel_rfl) (by kernel_rfl) (by kernel_rfl)
theorem num2_acc {p : Nat} {d pre mt b2 : List UInt8} {a : Nat → Int} (hd : T.drop p = 46 :: (d ++ (dash pre ++ (mt ++ b2)))) (hne : d ≠ []) (hD : ∀ x ∈ d, ptB x.toNat = true) (hw : pre = [] ∨ wds true pre = true) (hm : isMt mt) (hb : ∀ x ∈ b2, isb x.toNat = true) :
    AccF (txt T) T.length 40 p a (tlA [9] (p + 1 + d.length) pre mt (up [7, 8] p a)) := by
  refine point_acc (cs := [7, 8]) (o := 44) hd hne hD (by kernel_rfl) (by kernel_rfl) (by kernel_rfl) ?_
  obtain ⟨_, hlt, hd'⟩ := txt_head hd
  have hle : p + 1 + d.length ≤ T.length := by
    have := congrArg List.length hd'
    rw [List.length_drop, List.length_append] at this
    omega
  exact tail_acc hle (drop_add hd') hw hm hb (by kernel_rfl) (by kernel_rfl) (by kernel_rfl) (by kernel_rfl)
theorem num3_acc {p : Nat} {d e pre mt b2 : List UInt8} {a : Nat → Int} (hd : T.drop p = 46 :: (d ++ (46 :: (e ++ (dash pre ++ (mt ++ b2)))))) (hne : d ≠ []) (hD : ∀ x ∈ d, ptB x.toNat = true) (hne2 : e ≠ []) (hE : ∀ x ∈ e, ptB x.toNat = true) (hw : pre = [] ∨ wds true pre = true) (hm : isMt mt) (hb : ∀ x ∈ b2, isb x.toNat = true) :
    AccF (txt T) T.length 40 p a (tlA [11] (p + 1 + d.length + 1 + e.length) pre mt (up [9, 10] (p + 1 + d.length) (up [7, 8] p a))) := by
  refine point_acc (cs := [7, 8]) (o := 44) hd hne hD (by kernel_rfl) (by kernel_rfl) (by kernel_rfl) ?_
  obtain ⟨_, hlt, hd'⟩ := txt_head hd
  have hd2 := drop_add hd'
  refine point_acc (cs := [9, 10]) (o := 50) hd2 hne2 hE (by kernel_rfl) (by kernel_rfl) (by kernel_rfl) ?_
  obtain ⟨_, hlt2, hd3⟩ := txt_head hd2
  have hle : p + 1 + d.length + 1 + e.length ≤ T.length := by
    have := congrArg List.length hd3
    rw [List.length_drop, List.length_append] at this
    omega
  exact tail_acc hle (drop_add hd3) hw hm hb (by kernel_rfl) (by kernel_rfl) (by kernel_rfl) (by kernel_rfl)

/-! The beginning: a letter v or none, and the first number. -/
def isLt (lt : List UInt8) : Prop := lt = [] ∨ lt = [118]
theorem first_acc {q p : Nat} {cs : List Nat} {lt D R : List UInt8} {a a' : Nat → Int} (hd : T.drop p = lt ++ (D ++ R)) (hlt : isLt lt) (hne : D ≠ []) (hD : ∀ x ∈ D, ptB x.toNat = true) (hv : chkC q (fun b => b == 118) cs 38 = true) (hq : chkC q ptB (cs ++ [6]) 40 = true)
    (h : AccF (txt T) T.length 40 (p + lt.length + D.length) (up [6] (p + lt.length) (up cs p a)) a') : AccF (txt T) T.length q p a a' := by
  cases D with
  | nil => exact absurd rfl hne
  | cons y D =>
    have hny := hD y (List.mem_cons_self ..)
    have hD' : ∀ x ∈ D, ptB x.toNat = true := fun x hx => hD x (List.mem_cons_of_mem _ hx)
    rcases hlt with rfl | rfl
    · obtain ⟨hy, hlt, hd2⟩ := txt_head (R := D ++ R) hd
      refine AccF.step hlt (tabC hq hy hny (ptB_lt hny)) ?_
      rw [up_app]
      refine parts_acc (by kernel_rfl) hd2 hD' ?_
      rw [List.length_nil, List.length_cons] at h
      rwa [show p + 1 + D.length = p + 0 + (D.length + 1) by omega]
    · refine at1 (x := 118) (R := y :: (D ++ R)) hd (by decide) hv fun hlt hd => ?_
      obtain ⟨hy, hlt, hd2⟩ := txt_head (R := D ++ R) hd
      refine AccF.step hlt (tabC (q := 38) (cls := ptB) (cs := [6]) (o := 40) (by kernel_rfl) hy hny (ptB_lt hny)) ?_
      refine parts_acc (by kernel_rfl) hd2 hD' ?_
      rw [List.length_cons, List.length_cons, List.length_nil] at h
      rwa [show p + 1 + 1 + D.length = p + (0 + 1) + (D.length + 1) by omega]
/-- Behind an operator: blanks or none, and the version. -/
theorem behind_acc {q p : Nat} {bl lt D R : List UInt8} {a a' : Nat → Int} (hq : q = 32 ∨ q = 28) (hd : T.drop p = bl ++ (lt ++ (D ++ R))) (hb : ∀ x ∈ bl, isb x.toNat = true) (hlt : isLt lt) (hne : D ≠ []) (hD : ∀ x ∈ D, ptB x.toNat = true)
    (h : AccF (txt T) T.length 40 (p + bl.length + lt.length + D.length) (up [6] (p + bl.length + lt.length) (up [4] (p + bl.length) (up [3] p a))) a') : AccF (txt T) T.length q p a a' := by
  cases bl with
  | nil =>
    have h' : AccF (txt T) T.length 40 (p + lt.length + D.length) (up [6] (p + lt.length) (up [3, 4] p a)) a' := by
      rw [show ([3, 4] : List Nat) = [3] ++ [4] from rfl, up_app]
      exact h
    rcases hq with rfl | rfl
    · exact first_acc (lt := lt) (cs := [3, 4]) hd hlt hne hD (by kernel_rfl) (by kernel_rfl) h'
    · exact first_acc (lt := lt) (cs := [3, 4]) hd hlt hne hD (by kernel_rfl) (by kernel_rfl) h'
  | cons x bl =>
    obtain ⟨hx, hl, hd'⟩ := txt_head (R := bl ++ (lt ++ (D ++ R))) hd
    have hc := hb x (List.mem_cons_self ..)
    have go : AccF (txt T) T.length 34 (p + 1) (up [3] p a) a' := by
      refine run_acc (q := 34) (cls := isb) (by kernel_rfl) (fun n h => isb_lt h) bl (p + 1) hd' (fun y hy => hb y (List.mem_cons_of_mem _ hy)) ?_
      refine first_acc (cs := [4]) (drop_add hd') hlt hne hD (by kernel_rfl) (by kernel_rfl) ?_
      rw [List.length_cons] at h
      rwa [show p + 1 + bl.length = p + (bl.length + 1) by omega]
    rcases hq with rfl | rfl
    · exact AccF.step hl (tabC (q := 32) (cls := isb) (cs := [3]) (o := 34) (by kernel_rfl) hx hc (isb_lt hc)) go
    · exact AccF.step hl (tabC (q := 28) (cls := isb) (cs := [3]) (o := 34) (by kernel_rfl) hx hc (isb_lt hc)) go
/-- The operators: none, one, or two bytes. -/
def opsL : List (List UInt8) := [[], [61], [33, 61], [62], [60], [62, 61], [61, 62], [60, 61], [61, 60], [126], [126, 62], [94]]
def chk2 (x y : UInt8) (o : Nat) : Bool := decide (lk2 consL false (x.toNat : Int) (y.toNat : Int) 40 3 = some (.go [2] o)) && decide (lk2 consL true (x.toNat : Int) (y.toNat : Int) 40 3 = some (.go [2] o))
theorem at2 {p : Nat} {x y : UInt8} {R : List UInt8} {o : Nat} {a a' : Nat → Int} (hd : T.drop p = x :: y :: R) (h : chk2 x y o = true) (h7 : y.toNat < 128) (h2 : chkC o (fun b => b == y.toNat) [] 32 = true) (k : T.drop (p + 2) = R → AccF (txt T) T.length 32 (p + 2) (up [2] p a) a') : AccF (txt T) T.length 3 p a a' := by
  obtain ⟨hx, hlt, hd'⟩ := txt_head hd
  obtain ⟨hy, hlt2, hd2⟩ := txt_head hd'
  unfold chk2 at h
  rw [Bool.and_eq_true, decide_eq_true_eq, decide_eq_true_eq] at h
  refine AccF.step2 hlt (cs := [2]) (o := o) ?_ (AccF.pass hlt2 (tabC h2 hy (by simp) h7) rfl (k hd2))
  rw [hx, hy]
  cases (p == 0)
  · exact h.1
  · exact h.2
theorem op_acc {p : Nat} {op bl lt D R : List UInt8} {a a' : Nat → Int} (hop : op ∈ opsL) (h0 : op = [] → bl = []) (hd : T.drop p = op ++ (bl ++ (lt ++ (D ++ R)))) (hb : ∀ x ∈ bl, isb x.toNat = true) (hlt : isLt lt) (hne : D ≠ []) (hD : ∀ x ∈ D, ptB x.toNat = true)
    (h : AccF (txt T) T.length 40 (p + op.length + bl.length + lt.length + D.length) (up [6] (p + op.length + bl.length + lt.length) (up [4] (p + op.length + bl.length) (up [3] (p + op.length) (up [2] p a)))) a') : AccF (txt T) T.length 3 p a a' := by
  simp only [opsL, List.mem_cons, List.mem_nil_iff, or_false] at hop
  rcases hop with rfl | rfl | rfl | rfl | rfl | rfl | rfl | rfl | rfl | rfl | rfl | rfl
  · have := h0 rfl
    subst this
    refine first_acc (lt := lt) (cs := [2, 3, 4]) hd hlt hne hD (by kernel_rfl) (by kernel_rfl) ?_
    rw [show ([2, 3, 4] : List Nat) = ([2] ++ [3]) ++ [4] from rfl, up_app, up_app]
    exact h
  · exact at1 (x := 61) (cs := [2]) (o := 32) hd (by decide) (by kernel_rfl) fun _ hd => behind_acc (bl := bl) (lt := lt) (.inl rfl) hd hb hlt hne hD h
  · exact at1 (x := 33) (cs := [2]) (o := 9) hd (by decide) (by kernel_rfl) fun _ hd => at1 (x := 61) (cs := []) (o := 32) hd (by decide) (by kernel_rfl) fun _ hd => behind_acc (bl := bl) (lt := lt) (.inl rfl) hd hb hlt hne hD h
  · exact at1 (x := 62) (cs := [2]) (o := 32) hd (by decide) (by kernel_rfl) fun _ hd => behind_acc (bl := bl) (lt := lt) (.inl rfl) hd hb hlt hne hD h
  · exact at1 (x := 60) (cs := [2]) (o := 32) hd (by decide) (by kernel_rfl) fun _ hd => behind_acc (bl := bl) (lt := lt) (.inl rfl) hd hb hlt hne hD h
  · exact at2 (x := 62) (y := 61) (o := 14) hd (by kernel_rfl) (by decide) (by kernel_rfl) fun hd => behind_acc (bl := bl) (lt := lt) (.inl rfl) hd hb hlt hne hD h
  · exact at2 (x := 61) (y := 62) (o := 17) hd (by kernel_rfl) (by decide) (by kernel_rfl) fun hd => behind_acc (bl := bl) (lt := lt) (.inl rfl) hd hb hlt hne hD h
  · exact at2 (x := 60) (y := 61) (o := 20) hd (by kernel_rfl) (by decide) (by kernel_rfl) fun hd => behind_acc (bl := bl) (lt := lt) (.inl rfl) hd hb hlt hne hD h
  · exact at2 (x := 61) (y := 60) (o := 23) hd (by kernel_rfl) (by decide) (by kernel_rfl) fun hd => behind_acc (bl := bl) (lt := lt) (.inl rfl) hd hb hlt hne hD h
  · exact at1 (x := 126) (cs := [2]) (o := 28) hd (by decide) (by kernel_rfl) fun _ hd => behind_acc (bl := bl) (lt := lt) (.inr rfl) hd hb hlt hne hD h
  · exact at1 (x := 126) (cs := [2]) (o := 28) hd (by decide) (by kernel_rfl) fun _ hd => at1 (x := 62) (cs := []) (o := 32) hd (by decide) (by kernel_rfl) fun _ hd => behind_acc (bl := bl) (lt := lt) (.inl rfl) hd hb hlt hne hD h
  · exact at1 (x := 94) (cs := [2]) (o := 32) hd (by decide) (by kernel_rfl) fun _ hd => behind_acc (bl := bl) (lt := lt) (.inl rfl) hd hb hlt hne hD h
/-- From the text's beginning on. -/
theorem start_acc {b1 op bl lt D R : List UInt8} {a' : Nat → Int} (hT : T = b1 ++ (op ++ (bl ++ (lt ++ (D ++ R))))) (hb1 : ∀ x ∈ b1, isb x.toNat = true) (hop : op ∈ opsL) (h0 : op = [] → bl = []) (hb : ∀ x ∈ bl, isb x.toNat = true) (hlt : isLt lt) (hne : D ≠ []) (hD : ∀ x ∈ D, ptB x.toNat = true)
    (h : AccF (txt T) T.length 40 (b1.length + op.length + bl.length + lt.length + D.length) (up [6] (b1.length + op.length + bl.length + lt.length) (up [4] (b1.length + op.length + bl.length) (up [3] (b1.length + op.length) (up [2] b1.length (fun _ => -1))))) a') :
    ∃ c, mat consL (txt T) T.length (80 * (T.length + 1) + 1) 1 0 ((List.replicate 24 (-1 : Int)).set 0 0) = some (some c) ∧ ∀ i : Nat, 2 ≤ i → i < 14 → rdI c (i : Int) = a' i := by
  have hd : T.drop 0 = b1 ++ (op ++ (bl ++ (lt ++ (D ++ R)))) := hT
  have hA : AccF (txt T) T.length 3 0 (fun _ => -1) a' := by
    refine run_acc (q := 3) (cls := isb) (by kernel_rfl) (fun n h => isb_lt h) b1 0 hd hb1 ?_
    refine op_acc hop h0 (drop_add hd) hb hlt hne hD ?_
    rwa [Nat.zero_add]
  obtain ⟨c, h1, h2, h3⟩ := hA ((List.replicate 24 (-1 : Int)).set 0 0) rfl (by
    intro i h2 h14
    have : ∀ i : Nat, i < 14 → 2 ≤ i → rdI ((List.replicate 24 (-1 : Int)).set 0 0) (i : Int) = -1 := by decide
    exact this i h14 h2)
  refine ⟨c, ?_, h3⟩
  rw [mat, show consL[1]? = some ⟨3, 3, 4, []⟩ from rfl]
  exact h1
end
end Go.Proofs.YtekkaknpgdgjjaaGreatDoor.H
