/- Patterns of stars, question marks and plain bytes, as they are meant; and that the greedy search for the place of a chunk behind a star finds a match where there is one. No program in sight. -/
import Derived.Test.YtbdlcbllcjpaaaaDoorHaEv
namespace Go.Proofs.YtbdlcbllcjpaaaaDoor.H
set_option linter.unusedVariables false
set_option linter.unusedSimpArgs false

/-- A text matches f behind a star: at once, or behind bytes that are no slash. -/
def anyTail (f : List UInt8 → Bool) : List UInt8 → Bool
  | [] => f []
  | x :: s => f (x :: s) || (x != 47 && anyTail f s)
/-- A byte of a pattern matches a byte. -/
def one (c x : UInt8) : Bool := if c = 63 then x != 47 else c == x
def glob : List UInt8 → List UInt8 → Bool
  | [] => fun s => s.isEmpty
  | c :: p => if c = 42 then anyTail (glob p) else fun s => match s with
    | [] => false
    | x :: s => one c x && glob p s
/-- A chunk at the beginning of a text: what is left of the text. -/
def mcs : List UInt8 → List UInt8 → Option (List UInt8)
  | [], s => some s
  | _ :: _, [] => none
  | c :: cs, x :: s => if one c x = true then mcs cs s else none

theorem anyTail_at {f : List UInt8 → Bool} {s : List UInt8} (h : f s = true) : anyTail f s = true := by
  cases s with
  | nil => exact h
  | cons x s => simp [anyTail, h]
theorem anyTail_iff {f : List UInt8 → Bool} : ∀ {s : List UInt8}, anyTail f s = true ↔ ∃ a u, s = a ++ u ∧ 47 ∉ a ∧ f u = true := by
  intro s
  induction s with
  | nil =>
    constructor
    · intro h
      exact ⟨[], [], rfl, by simp, h⟩
    · rintro ⟨a, u, e, _, h⟩
      obtain ⟨rfl, rfl⟩ := List.nil_eq_append_iff.1 e
      exact h
  | cons x s ih =>
    constructor
    · intro h
      simp only [anyTail, Bool.or_eq_true, Bool.and_eq_true, bne_iff_ne, ne_eq] at h
      rcases h with h | ⟨hx, h⟩
      · exact ⟨[], x :: s, rfl, by simp, h⟩
      · obtain ⟨a, u, rfl, ha, hu⟩ := ih.1 h
        exact ⟨x :: a, u, rfl, by simp [ha]; exact fun e => hx e.symm, hu⟩
    · rintro ⟨a, u, e, ha, hu⟩
      cases a with
      | nil =>
        obtain rfl := e
        simp [anyTail, hu]
      | cons y a =>
        simp only [List.cons_append, List.cons.injEq] at e
        obtain ⟨rfl, rfl⟩ := e
        simp only [List.mem_cons, not_or] at ha
        simp only [anyTail, Bool.or_eq_true, Bool.and_eq_true, bne_iff_ne, ne_eq]
        exact .inr ⟨fun e => ha.1 e.symm, ih.2 ⟨a, u, rfl, ha.2, hu⟩⟩
theorem bool_iff {a b : Bool} (h : a = true ↔ b = true) : a = b := by
  cases a <;> cases b <;> simp_all
theorem anyTail_twice (f : List UInt8 → Bool) (s : List UInt8) : anyTail (anyTail f) s = anyTail f s := by
  refine bool_iff ⟨fun h => ?_, fun h => anyTail_at h⟩
  obtain ⟨a, u, rfl, ha, hu⟩ := anyTail_iff.1 h
  obtain ⟨b, v, rfl, hb, hv⟩ := anyTail_iff.1 hu
  exact anyTail_iff.2 ⟨a ++ b, v, by simp, by simp [ha, hb], hv⟩
theorem glob_star (p : List UInt8) : glob (42 :: p) = anyTail (glob p) := by
  rw [glob, if_pos rfl]
theorem glob_stars (p : List UInt8) (s : List UInt8) : glob (42 :: 42 :: p) s = glob (42 :: p) s := by
  rw [glob_star, glob_star, anyTail_twice]
theorem glob_drop (p : List UInt8) : ∀ s, glob p s = if p.head? = some 42 then anyTail (glob (p.dropWhile (· == 42))) s else glob p s := by
  induction p with
  | nil => intro s; simp
  | cons c p ih =>
    intro s
    by_cases hc : c = 42
    · subst hc
      simp only [List.head?_cons, if_true, List.dropWhile_cons, beq_self_eq_true]
      rw [glob_star]
      by_cases hp : p.head? = some 42
      · have e : glob p = anyTail (glob (p.dropWhile (· == 42))) := by
          funext s
          rw [ih s, if_pos hp]
        rw [e, anyTail_twice]
      · have e : p.dropWhile (· == 42) = p := by
          cases p with
          | nil => rfl
          | cons d p =>
            simp only [List.head?_cons, Option.some.injEq] at hp
            rw [List.dropWhile_cons_of_neg (by simpa using hp)]
        rw [e]
    · rw [if_neg (by simpa using hc)]

theorem glob_chunk : ∀ (c p s : List UInt8), 42 ∉ c → glob (c ++ p) s = match mcs c s with
    | some t => glob p t
    | none => false := by
  intro c
  induction c with
  | nil => intro p s _; rfl
  | cons d c ih =>
    intro p s h
    simp only [List.mem_cons, not_or] at h
    have hd : ¬ d = 42 := fun e => h.1 e.symm
    rw [List.cons_append, glob, if_neg hd]
    cases s with
    | nil => rfl
    | cons x s =>
      show (one d x && glob (c ++ p) s) = _
      rw [ih p s h.2, mcs]
      cases one d x <;> simp

theorem one_slash {c x : UInt8} (h : one c x = true) : (x = 47) = (c = 47) := by
  unfold one at h
  split at h
  · rename_i hc
    subst hc
    simp only [bne_iff_ne, ne_eq] at h
    exact propext ⟨fun e => absurd e h, fun e => absurd e (by decide)⟩
  · simp only [beq_iff_eq] at h
    rw [h]
theorem mcs_some : ∀ {c s t : List UInt8}, mcs c s = some t → ∃ h, s = h ++ t ∧ h.length = c.length ∧ h.map (fun x => decide (x = 47)) = c.map (fun x => decide (x = 47)) := by
  intro c
  induction c with
  | nil =>
    intro s t h
    simp only [mcs, Option.some.injEq] at h
    exact ⟨[], by simp [h], rfl, rfl⟩
  | cons d c ih =>
    intro s t h
    cases s with
    | nil => simp [mcs] at h
    | cons x s =>
      rw [mcs] at h
      split at h
      · rename_i ho
        obtain ⟨h', rfl, hl, hm⟩ := ih h
        refine ⟨x :: h', rfl, by simp [hl], ?_⟩
        rw [List.map_cons, List.map_cons, hm]
        congr 1
        exact decide_eq_decide.2 (iff_of_eq (one_slash ho))
      · simp at h
theorem mem_map47 (l : List UInt8) : 47 ∈ l ↔ true ∈ l.map (fun x => decide (x = 47)) := by
  simp
/-- The first slash of two texts that are one: where the one has no slash, and the other has one at the same place in each, nothing was skipped. -/
theorem first_slash : ∀ (a h h' t t' : List UInt8), h.map (fun x => decide (x = 47)) = h'.map (fun x => decide (x = 47)) → 47 ∈ h → 47 ∉ a → h ++ t = a ++ (h' ++ t') → a = [] := by
  have idx : ∀ (l m : List UInt8), l.map (fun x => decide (x = 47)) = m.map (fun x => decide (x = 47)) → l.idxOf 47 = m.idxOf 47 := by
    intro l
    induction l with
    | nil => intro m h; simp at h; rw [h]
    | cons x l ih =>
      intro m h
      cases m with
      | nil => simp at h
      | cons y m =>
        rw [List.map_cons, List.map_cons, List.cons.injEq] at h
        rw [List.idxOf_cons, List.idxOf_cons, ih m h.2]
        have : (x == 47) = (y == 47) := by
          have := h.1
          have hd := decide_eq_decide.1 this
          by_cases hx : x = 47
          · rw [hx, hd.1 hx]
          · have hy : ¬ y = 47 := fun e => hx (hd.2 e)
            rw [beq_eq_false_iff_ne.2 hx, beq_eq_false_iff_ne.2 hy]
        rw [this]
  intro a h h' t t' hm hin ha e
  have hin' : 47 ∈ h' := by rw [mem_map47] at hin ⊢; rw [← hm]; exact hin
  have e1 : (h ++ t).idxOf 47 = h.idxOf 47 := by rw [List.idxOf_append, if_pos hin]
  have e2 : (a ++ (h' ++ t')).idxOf 47 = h'.idxOf 47 + a.length := by
    rw [List.idxOf_append, if_neg ha, List.idxOf_append, if_pos hin']
  rw [e, e2] at e1
  rw [idx h h' hm] at e1
  have : a.length = 0 := by omega
  exact List.eq_nil_of_length_eq_zero this
/-- The first place is as good as any later one. -/
theorem greedy {c s t : List UInt8} {f : List UInt8 → Bool} (h : mcs c s = some t)
    (hs : anyTail (fun u => match mcs c u with | some t => anyTail f t | none => false) s = true) : anyTail f t = true := by
  obtain ⟨a, u, e, ha, hu⟩ := anyTail_iff.1 hs
  cases hm : mcs c u with
  | none => simp [hm] at hu
  | some t' =>
    simp only [hm] at hu
    obtain ⟨h1, rfl, hl1, hm1⟩ := mcs_some h
    obtain ⟨h2, rfl, hl2, hm2⟩ := mcs_some hm
    by_cases hin : 47 ∈ h1
    · obtain rfl := first_slash a h1 h2 t t' (by rw [hm1, hm2]) hin ha e
      simp only [List.nil_append] at e
      have := List.append_inj_right e (by rw [hl1, hl2])
      rw [this]
      exact hu
    · have hin2 : 47 ∉ h2 := by
        rw [mem_map47, hm2, ← hm1, ← mem_map47]
        exact hin
      have e2 : h1 ++ t = (a ++ h2) ++ t' := by rw [e, List.append_assoc]
      obtain ⟨b, hb1, hb2⟩ : ∃ b, a ++ h2 = h1 ++ b ∧ t = b ++ t' := by
        rcases List.append_eq_append_iff.1 e2 with ⟨b, h3, h4⟩ | ⟨b, h3, h4⟩
        · exact ⟨b, h3, h4⟩
        · have : b = [] := by
            have := congrArg List.length h3
            simp at this
            exact List.eq_nil_of_length_eq_zero (by omega)
          subst this
          exact ⟨[], by simpa using h3.symm, by simpa using h4.symm⟩
      obtain ⟨b', v, rfl, hb', hv⟩ := anyTail_iff.1 hu
      refine anyTail_iff.2 ⟨b ++ b', v, by rw [hb2, List.append_assoc], ?_, hv⟩
      have : 47 ∉ b := by
        intro hbm
        have : 47 ∈ a ++ h2 := by rw [hb1]; exact List.mem_append_right _ hbm
        rcases List.mem_append.1 this with h5 | h5
        · exact ha h5
        · exact hin2 h5
      simp [this, hb']
end Go.Proofs.YtbdlcbllcjpaaaaDoor.H
