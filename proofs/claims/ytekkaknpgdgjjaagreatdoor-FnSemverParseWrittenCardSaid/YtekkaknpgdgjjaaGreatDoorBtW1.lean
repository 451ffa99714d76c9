/- Texts of this claim, joined. -/
import Derived.Test.YtekkaknpgdgjjaaGreatDoorEngW1
import Derived.Test.YtekkaknpgdgjjaaGreatDoorBasicW1
import Derived.Laws.Shifts
import Derived.Laws.BitsLemmas
/- The backtracker, plainly: what its loop does with its stack of jobs and its set of visited pairs, and that it answers what the program's choices by rank answer. -/
namespace Go.Proofs.YtekkaknpgdgjjaaGreatDoor.H
open Go.RowKit Go.Proofs.YtekkaknpgdgjjaaGreatDoorW.PrintWords
set_option linter.unusedVariables false
set_option linter.unusedSimpArgs false

structure Job where
  pc : Nat
  arg : Bool
  pos : Int
inductive Ctl where
  | bad : Ctl
  | fail : Ctl
  | acc : Ctl
  | alt : Ctl
  | cap : Ctl
  | go : Nat → Ctl
/-- What an instruction does at a place of the text (t: its runes; E: its end). -/
def ctl (t : Nat → Int) (E : Nat) (I : Bi) (pos : Nat) : Ctl :=
  if I.op = 0 then .alt
  else if I.op = 2 then .cap
  else if I.op = 4 then .acc
  else if I.op = 6 then .go pos
  else if I.op = 7 then (if mrp I.rs (t pos) = -1 then .fail else if pos < E then .go (pos + 1) else .bad)
  else if I.op = 8 then (if t pos = rdI I.rs 0 then (if pos < E then .go (pos + 1) else .bad) else .fail)
  else if I.op = 3 then (if I.arg = 4 then (if pos = 0 then .go pos else .fail) else if I.arg = 8 then (if t pos < 0 then .go pos else .fail) else .bad)
  else .bad
def idx (E pc pos : Nat) : Nat := pc * (E + 1) + pos
def mark (V : Nat → Bool) (n : Nat) : Nat → Bool := fun m => V m || m == n
inductive Md where
  | chk : Nat → Nat → Md
  | exec : Nat → Nat → Md
  | pop : Md
/-- The loop: at most k steps. -/
def bt (L : List Bi) (t : Nat → Int) (E B : Nat) : Nat → Md → List Job → (Nat → Bool) → List Int → Option (Bool × (Nat → Bool) × List Int)
  | 0, _, _, _, _ => none
  | k + 1, .chk pc pos, js, V, c => if V (idx E pc pos) = true then bt L t E B k .pop js V c else bt L t E B k (.exec pc pos) js (mark V (idx E pc pos)) c
  | k + 1, .exec pc pos, js, V, c => match L[pc]? with
    | none => none
    | some I => match ctl t E I pos with
      | .bad => none
      | .fail => bt L t E B k .pop js V c
      | .acc => some (true, V, if 1 < c.length then c.set 1 pos else c)
      | .alt => if js.length < B then bt L t E B k (.chk I.out.toNat pos) (⟨pc, true, pos⟩ :: js) V c else none
      | .cap => if I.arg.toNat < c.length then (if js.length < B then bt L t E B k (.chk I.out.toNat pos) (⟨pc, true, rdI c I.arg⟩ :: js) V (c.set I.arg.toNat pos) else none) else bt L t E B k (.chk I.out.toNat pos) js V c
      | .go pos' => bt L t E B k (.chk I.out.toNat pos') js V c
  | k + 1, .pop, [], V, c => some (false, V, c)
  | k + 1, .pop, ⟨pc, false, pos⟩ :: js, V, c => bt L t E B k (.exec pc pos.toNat) js V c
  | k + 1, .pop, ⟨pc, true, pos⟩ :: js, V, c => match L[pc]? with
    | none => none
    | some I => if I.op = 0 then bt L t E B k (.chk I.arg.toNat pos.toNat) js V c else if I.op = 2 then bt L t E B k .pop js V (c.set I.arg.toNat pos) else none

/-- Whether there is a match from an instruction and a place on. -/
def suc (L : List Bi) (t : Nat → Int) (E : Nat) : Nat → Nat → Nat → Option Bool
  | 0, _, _ => none
  | k + 1, pc, pos => match L[pc]? with
    | none => none
    | some I => match ctl t E I pos with
      | .bad => none
      | .fail => some false
      | .acc => some true
      | .alt => match suc L t E k I.out.toNat pos with
        | some false => suc L t E k I.arg.toNat pos
        | r => r
      | .cap => suc L t E k I.out.toNat pos
      | .go pos' => suc L t E k I.out.toNat pos'
/-- The first match by rank, as the places that it captures. -/
def mat (L : List Bi) (t : Nat → Int) (E : Nat) : Nat → Nat → Nat → List Int → Option (Option (List Int))
  | 0, _, _, _ => none
  | k + 1, pc, pos, c => match L[pc]? with
    | none => none
    | some I => match ctl t E I pos with
      | .bad => none
      | .fail => some none
      | .acc => some (some (if 1 < c.length then c.set 1 pos else c))
      | .alt => match mat L t E k I.out.toNat pos c with
        | some none => mat L t E k I.arg.toNat pos c
        | r => r
      | .cap => if I.arg.toNat < c.length then mat L t E k I.out.toNat pos (c.set I.arg.toNat pos) else mat L t E k I.out.toNat pos c
      | .go pos' => mat L t E k I.out.toNat pos' c

section
variable {L : List Bi} {t : Nat → Int} {E B : Nat}
theorem suc_mat : ∀ (k pc pos : Nat) (c : List Int), suc L t E k pc pos = (mat L t E k pc pos c).map Option.isSome := by
  intro k
  induction k with
  | zero => intro pc pos c; rfl
  | succ k ih =>
    intro pc pos c
    rw [suc, mat]
    cases L[pc]? with
    | none => rfl
    | some I =>
      dsimp only
      cases ctl t E I pos with
      | bad => rfl
      | fail => rfl
      | acc => rfl
      | alt =>
        dsimp only
        rw [ih I.out.toNat pos c]
        cases mat L t E k I.out.toNat pos c with
        | none => rfl
        | some o =>
          cases o with
          | none => exact ih _ _ _
          | some c' => rfl
      | cap =>
        dsimp only
        split
        · exact ih _ _ _
        · exact ih _ _ _
      | go p => exact ih _ _ _
theorem mat_mono : ∀ (k pc pos : Nat) (c : List Int) (r : Option (List Int)), mat L t E k pc pos c = some r → mat L t E (k + 1) pc pos c = some r := by
  intro k
  induction k with
  | zero => intro pc pos c r h; cases h
  | succ k ih =>
    intro pc pos c r h
    rw [mat] at h ⊢
    cases hI : L[pc]? with
    | none => rw [hI] at h; cases h
    | some I =>
      rw [hI] at h
      dsimp only at h ⊢
      cases hc : ctl t E I pos with
      | bad => rw [hc] at h; cases h
      | fail => rw [hc] at h; exact h
      | acc => rw [hc] at h; exact h
      | alt =>
        rw [hc] at h
        dsimp only at h ⊢
        cases ho : mat L t E k I.out.toNat pos c with
        | none => rw [ho] at h; cases h
        | some o =>
          rw [ho] at h
          rw [ih _ _ _ _ ho]
          cases o with
          | none => exact ih _ _ _ _ h
          | some c' => exact h
      | cap =>
        rw [hc] at h
        dsimp only at h ⊢
        split at h
        · rename_i hlt
          rw [if_pos hlt]
          exact ih _ _ _ _ h
        · rename_i hlt
          rw [if_neg hlt]
          exact ih _ _ _ _ h
      | go p =>
        rw [hc] at h
        exact ih _ _ _ _ h
theorem suc_mono {k pc pos : Nat} {b : Bool} (h : suc L t E k pc pos = some b) : suc L t E (k + 1) pc pos = some b := by
  rw [suc_mat k pc pos []] at h
  rw [suc_mat (k + 1) pc pos []]
  cases hm : mat L t E k pc pos [] with
  | none => rw [hm] at h; cases h
  | some r => rw [hm] at h; rw [mat_mono _ _ _ _ _ hm]; exact h
theorem suc_le {k m pc pos : Nat} {b : Bool} (hle : k ≤ m) (h : suc L t E k pc pos = some b) : suc L t E m pc pos = some b := by
  induction m with
  | zero => have : k = 0 := by omega
            subst this; exact h
  | succ m ih =>
    by_cases e : k = m + 1
    · subst e; exact h
    · exact suc_mono (ih (by omega))
theorem mat_le {k m pc pos : Nat} {c : List Int} {r : Option (List Int)} (hle : k ≤ m) (h : mat L t E k pc pos c = some r) : mat L t E m pc pos c = some r := by
  induction m with
  | zero => have : k = 0 := by omega
            subst this; exact h
  | succ m ih =>
    by_cases e : k = m + 1
    · subst e; exact h
    · exact mat_mono _ _ _ _ _ (ih (by omega))
theorem suc_uniq {k m pc pos : Nat} {b b' : Bool} (h : suc L t E k pc pos = some b) (h' : suc L t E m pc pos = some b') : b = b' := by
  have a := suc_le (Nat.le_max_left k m) h
  have a' := suc_le (Nat.le_max_right k m) h'
  exact Option.some.inj (a.symm.trans a')
def fails (L : List Bi) (t : Nat → Int) (E pc pos : Nat) : Prop := ∃ k, suc L t E k pc pos = some false
theorem idx_inj {p q p' q' : Nat} (hq : q ≤ E) (hq' : q' ≤ E) (h : idx E p q = idx E p' q') : p = p' ∧ q = q' := by
  unfold idx at h
  have e : p = p' := by
    rcases Nat.lt_trichotomy p p' with hl | he | hl
    · have := Nat.mul_le_mul_right (E + 1) (show p + 1 ≤ p' from hl)
      rw [Nat.add_mul] at this
      omega
    · exact he
    · have := Nat.mul_le_mul_right (E + 1) (show p' + 1 ≤ p from hl)
      rw [Nat.add_mul] at this
      omega
  subst e
  exact ⟨rfl, by omega⟩
/-- The loop from a pair on does what the ranked choice says. -/
def Does (L : List Bi) (t : Nat → Int) (E B : Nat) (m : Option (Option (List Int))) (g : Md) (js : List Job) (V : Nat → Bool) (c : List Int) : Prop :=
  (∀ c', m = some (some c') → ∃ V', Ev (fun n => bt L t E B n g js V c) (true, V', c')) ∧
  (m = some none → ∃ V', (∀ p q, q ≤ E → V' (idx E p q) = true → V (idx E p q) = true ∨ fails L t E p q) ∧ ∀ R, Ev (fun n => bt L t E B n .pop js V' c) R → Ev (fun n => bt L t E B n g js V c) R)
def Inv (L : List Bi) (t : Nat → Int) (E k : Nat) (V : Nat → Bool) : Prop := ∀ p q, q ≤ E → V (idx E p q) = true → fails L t E p q ∨ suc L t E k p q = none
theorem Inv.down {k : Nat} {V : Nat → Bool} (h : Inv L t E (k + 1) V) : Inv L t E k V := by
  intro p q hq hv
  rcases h p q hq hv with h | h
  · exact .inl h
  · refine .inr ?_
    cases hs : suc L t E k p q with
    | none => rfl
    | some b => rw [suc_mono hs] at h; cases h
theorem Inv.more {k : Nat} {V V' : Nat → Bool} (h : Inv L t E k V) (hV : ∀ p q, q ≤ E → V' (idx E p q) = true → V (idx E p q) = true ∨ fails L t E p q) : Inv L t E k V' := by
  intro p q hq hv
  rcases hV p q hq hv with h1 | h1
  · exact h p q hq h1
  · exact .inl h1
theorem set_get (c : List Int) (i : Nat) (x : Int) (h : i < c.length) : (c.set i x).set i (rdI c (i : Int)) = c := by
  apply List.ext_getElem
  · simp
  · intro j h1 h2
    by_cases e : i = j
    · subst e
      simp [rdI, rdOf, List.getD_eq_getElem?_getD, h]
    · simp [List.getElem_set, e]
/-- The program's places that stay in the text. -/
theorem ctl_alt {I : Bi} {pos : Nat} (h : ctl t E I pos = .alt) : I.op = 0 := by
  unfold ctl at h
  repeat' split at h
  all_goals first | assumption | cases h
theorem ctl_cap {I : Bi} {pos : Nat} (h : ctl t E I pos = .cap) : I.op = 2 := by
  unfold ctl at h
  repeat' split at h
  all_goals first | assumption | cases h
theorem ctl_pos {I : Bi} {pos p : Nat} (h : ctl t E I pos = .go p) (hp : pos ≤ E) : p ≤ E := by
  unfold ctl at h
  repeat' split at h
  all_goals first | (cases h; omega) | cases h
set_option maxHeartbeats 2000000 in
theorem exec_step {k : Nat} (hargs : ∀ I ∈ L, I.op = 2 → 0 ≤ I.arg)
    (ih : ∀ pc pos, pos ≤ E → ∀ b, suc L t E k pc pos = some b → ∀ V, Inv L t E k V → ∀ js c, js.length + k ≤ B → Does L t E B (mat L t E k pc pos c) (.chk pc pos) js V c)
    (pc pos : Nat) (hpos : pos ≤ E) (b : Bool) (hs : suc L t E (k + 1) pc pos = some b) (V : Nat → Bool) (hV : Inv L t E k V) (js : List Job) (c : List Int) (hB : js.length + (k + 1) ≤ B) :
    Does L t E B (mat L t E (k + 1) pc pos c) (.exec pc pos) js V c := by
  rw [suc] at hs
  rw [mat]
  cases hI : L[pc]? with
  | none => rw [hI] at hs; cases hs
  | some I =>
    rw [hI] at hs
    dsimp only at hs ⊢
    have unf : ∀ n, bt L t E B (n + 1) (.exec pc pos) js V c = (match ctl t E I pos with
      | .bad => none
      | .fail => bt L t E B n .pop js V c
      | .acc => some (true, V, if 1 < c.length then c.set 1 pos else c)
      | .alt => if js.length < B then bt L t E B n (.chk I.out.toNat pos) (⟨pc, true, pos⟩ :: js) V c else none
      | .cap => if I.arg.toNat < c.length then (if js.length < B then bt L t E B n (.chk I.out.toNat pos) (⟨pc, true, rdI c I.arg⟩ :: js) V (c.set I.arg.toNat pos) else none) else bt L t E B n (.chk I.out.toNat pos) js V c
      | .go pos' => bt L t E B n (.chk I.out.toNat pos') js V c) := by
      intro n
      rw [bt, hI]
    have lift : ∀ {g : Nat → Option (Bool × (Nat → Bool) × List Int)} {R}, Ev g R → (∀ n, bt L t E B (n + 1) (.exec pc pos) js V c = g n) → Ev (fun n => bt L t E B n (.exec pc pos) js V c) R := by
      intro g R h e
      refine Ev.succ ?_
      simpa only [e] using h
    cases hc : ctl t E I pos with
    | bad => rw [hc] at hs; cases hs
    | fail =>
      simp only [hc] at unf
      refine ⟨fun c2 h => (by cases h), fun _ => ⟨V, fun p q _ h => .inl h, fun R hR => lift hR unf⟩⟩
    | acc =>
      simp only [hc] at unf
      refine ⟨fun c' h => ?_, fun h => by cases h⟩
      cases h
      exact ⟨V, lift (Ev.val _) unf⟩
    | alt =>
      rw [hc] at hs
      simp only [hc] at unf
      dsimp only at hs ⊢
      have hlt : js.length < B := by omega
      simp only [if_pos hlt] at unf
      have h0 : I.op = 0 := ctl_alt hc
      have popA : ∀ (V' : Nat → Bool) (c' : List Int) R, Ev (fun n => bt L t E B n (.chk I.arg.toNat pos) js V' c') R → Ev (fun n => bt L t E B n .pop (⟨pc, true, (pos : Int)⟩ :: js) V' c') R := by
        intro V' c' R h
        refine Ev.succ ?_
        have e : ∀ n, bt L t E B (n + 1) .pop (⟨pc, true, (pos : Int)⟩ :: js) V' c' = bt L t E B n (.chk I.arg.toNat pos) js V' c' := by
          intro n
          rw [bt, hI]
          simp [h0]
        simpa only [e] using h
      cases hm : mat L t E k I.out.toNat pos c with
      | none =>
        have := suc_mat (L := L) (t := t) (E := E) k I.out.toNat pos c
        rw [hm] at this
        rw [this] at hs
        cases hs
      | some o =>
        have hsm := suc_mat (L := L) (t := t) (E := E) k I.out.toNat pos c
        rw [hm] at hsm
        cases o with
        | some c' =>
          obtain ⟨d1, _⟩ := ih I.out.toNat pos hpos true hsm V hV (⟨pc, true, pos⟩ :: js) c (by simp only [List.length_cons]; omega)
          obtain ⟨V', hV'⟩ := d1 c' hm
          refine ⟨fun c2 h => ?_, fun h => (by cases h)⟩
          cases h
          exact ⟨V', lift hV' unf⟩
        | none =>
          rw [hsm] at hs
          dsimp only [Option.map, Option.isSome] at hs
          obtain ⟨_, d2⟩ := ih I.out.toNat pos hpos false hsm V hV (⟨pc, true, pos⟩ :: js) c (by simp only [List.length_cons]; omega)
          obtain ⟨V1, hV1, go1⟩ := d2 hm
          obtain ⟨e1, e2⟩ := ih I.arg.toNat pos hpos b hs V1 (hV.more hV1) js c (by omega)
          dsimp only
          refine ⟨fun c2 h => ?_, fun h => ?_⟩
          · obtain ⟨V', hV'⟩ := e1 c2 h
            exact ⟨V', lift (go1 _ (popA _ _ _ hV')) unf⟩
          · obtain ⟨V', hV', go2⟩ := e2 h
            refine ⟨V', fun p q hq hv => ?_, fun R hR => lift (go1 _ (popA _ _ _ (go2 R hR))) unf⟩
            rcases hV' p q hq hv with h | h
            · exact hV1 p q hq h
            · exact .inr h
    | cap =>
      rw [hc] at hs
      simp only [hc] at unf
      dsimp only at hs ⊢
      have hlt : js.length < B := by omega
      have h2 : I.op = 2 := ctl_cap hc
      have h0 : 0 ≤ I.arg := hargs I (List.mem_of_getElem? hI) h2
      by_cases ha : I.arg.toNat < c.length
      · simp only [if_pos ha, if_pos hlt] at unf
        rw [if_pos ha]
        obtain ⟨d1, d2⟩ := ih I.out.toNat pos hpos b hs V hV (⟨pc, true, rdI c I.arg⟩ :: js) (c.set I.arg.toNat pos) (by simp only [List.length_cons]; omega)
        refine ⟨fun c2 h => ?_, fun h => ?_⟩
        · obtain ⟨V', hV'⟩ := d1 c2 h
          exact ⟨V', lift hV' unf⟩
        · obtain ⟨V', hV', go2⟩ := d2 h
          refine ⟨V', hV', fun R hR => lift (go2 R ?_) unf⟩
          refine Ev.succ ?_
          have e : ∀ n, bt L t E B (n + 1) .pop (⟨pc, true, rdI c I.arg⟩ :: js) V' (c.set I.arg.toNat pos) = bt L t E B n .pop js V' c := by
            intro n
            rw [bt, hI]
            have e1 := set_get c I.arg.toNat pos ha
            rw [show ((I.arg.toNat : Nat) : Int) = I.arg by omega] at e1
            simp [h2, e1]
          simpa only [e] using hR
      · simp only [if_neg ha] at unf
        rw [if_neg ha]
        obtain ⟨d1, d2⟩ := ih I.out.toNat pos hpos b hs V hV js c (by omega)
        refine ⟨fun c2 h => ?_, fun h => ?_⟩
        · obtain ⟨V', hV'⟩ := d1 c2 h
          exact ⟨V', lift hV' unf⟩
        · obtain ⟨V', hV', go2⟩ := d2 h
          exact ⟨V', hV', fun R hR => lift (go2 R hR) unf⟩
    | go p =>
      rw [hc] at hs
      simp only [hc] at unf
      dsimp only at hs ⊢
      obtain ⟨d1, d2⟩ := ih I.out.toNat p (ctl_pos hc hpos) b hs V hV js c (by omega)
      refine ⟨fun c2 h => ?_, fun h => ?_⟩
      · obtain ⟨V', hV'⟩ := d1 c2 h
        exact ⟨V', lift hV' unf⟩
      · obtain ⟨V', hV', go2⟩ := d2 h
        exact ⟨V', hV', fun R hR => lift (go2 R hR) unf⟩
set_option maxHeartbeats 2000000 in
theorem bt_does (hargs : ∀ I ∈ L, I.op = 2 → 0 ≤ I.arg) : ∀ k pc pos, pos ≤ E → ∀ b, suc L t E k pc pos = some b → ∀ V, Inv L t E k V → ∀ js c, js.length + k ≤ B → Does L t E B (mat L t E k pc pos c) (.chk pc pos) js V c := by
  intro k
  induction k with
  | zero => intro pc pos _ b h; cases h
  | succ k ih =>
    intro pc pos hpos b hs V hV js c hB
    cases hk : suc L t E k pc pos with
    | some b' =>
      have h := ih pc pos hpos b' hk V hV.down js c (by omega)
      have hm := suc_mat (L := L) (t := t) (E := E) k pc pos c
      rw [hk] at hm
      cases hmm : mat L t E k pc pos c with
      | none => rw [hmm] at hm; cases hm
      | some r => rw [mat_mono _ _ _ _ _ hmm]; rwa [hmm] at h
    | none =>
      by_cases hv : V (idx E pc pos) = true
      · have hf : fails L t E pc pos := by
          rcases hV pc pos hpos hv with h | h
          · exact h
          · rw [hs] at h; cases h
        obtain ⟨m, hm⟩ := hf
        have hb := suc_uniq hs hm
        subst hb
        have hmm := suc_mat (L := L) (t := t) (E := E) (k + 1) pc pos c
        rw [hs] at hmm
        cases hM : mat L t E (k + 1) pc pos c with
        | none => rw [hM] at hmm; cases hmm
        | some r =>
          cases r with
          | some c' => rw [hM] at hmm; cases hmm
          | none =>
            refine ⟨fun c2 h => (by cases h), fun _ => ⟨V, fun p q _ h => .inl h, fun R hR => ?_⟩⟩
            refine Ev.succ ?_
            have e : ∀ n, bt L t E B (n + 1) (.chk pc pos) js V c = bt L t E B n .pop js V c := by
              intro n
              rw [bt, if_pos hv]
            simpa only [e] using hR
      · have e : ∀ n, bt L t E B (n + 1) (.chk pc pos) js V c = bt L t E B n (.exec pc pos) js (mark V (idx E pc pos)) c := by
          intro n
          rw [bt, if_neg hv]
        have hV1 : Inv L t E k (mark V (idx E pc pos)) := by
          intro p q hq h
          unfold mark at h
          rw [Bool.or_eq_true, beq_iff_eq] at h
          rcases h with h | h
          · exact hV.down p q hq h
          · obtain ⟨rfl, rfl⟩ := idx_inj hq hpos h
            exact .inr hk
        obtain ⟨d1, d2⟩ := exec_step hargs ih pc pos hpos b hs _ hV1 js c hB
        refine ⟨fun c' h => ?_, fun h => ?_⟩
        · obtain ⟨V', hV'⟩ := d1 c' h
          refine ⟨V', Ev.succ ?_⟩
          simpa only [e] using hV'
        · obtain ⟨V', hV', go⟩ := d2 h
          refine ⟨V', fun p q hq hv' => ?_, fun R hR => Ev.succ ?_⟩
          · rcases hV' p q hq hv' with h1 | h1
            · unfold mark at h1
              rw [Bool.or_eq_true, beq_iff_eq] at h1
              rcases h1 with h1 | h1
              · exact .inl h1
              · obtain ⟨rfl, rfl⟩ := idx_inj hq hpos h1
                refine .inr ⟨k + 1, ?_⟩
                rw [suc_mat (k + 1) p q c, h]
                rfl
            · exact .inr h1
          · simpa only [e] using go R hR
end
end Go.Proofs.YtekkaknpgdgjjaaGreatDoor.H

/- The backtracker's set of visited pairs, as bits of words. -/
namespace Go.Proofs.YtekkaknpgdgjjaaGreatDoor.H
open Go.RowKit Go.Proofs.YtekkaknpgdgjjaaGreatDoorW.PrintWords
set_option linter.unusedVariables false
set_option linter.unusedSimpArgs false

theorem wraps_u64 (n : Int) (h₀ : 0 ≤ n) (h₁ : n < 2 ^ 64) : IntKind.u64.wrap n = n := by rw [IntKind.wrap_u64]; omega
theorem wraps_u32 (n : Int) (h₀ : 0 ≤ n) (h₁ : n < 2 ^ 32) : IntKind.u32.wrap n = n := by rw [IntKind.wrap_u32]; omega
theorem u64_and31 (n : Int) (h0 : 0 ≤ n) (h1 : n < 2 ^ 64) : bits .and .u64 n 31 = n % 32 := bits_mask .u64 64 (by decide) wraps_u64 5 (by decide) n h0 h1
/-- Whether a pair's bit is set. -/
def vb (ws : List Nat) (n : Nat) : Bool := (ws.getD (n / 32) 0).testBit (n % 32)
def vput (ws : List Nat) (n : Nat) : List Nat := ws.set (n / 32) (ws.getD (n / 32) 0 ||| 2 ^ (n % 32))
theorem pow_lt (n : Nat) : 2 ^ (n % 32) < 2 ^ 32 := Nat.pow_lt_pow_right (by decide) (Nat.mod_lt _ (by decide))
theorem and_bit (x n : Nat) (hx : x < 2 ^ 32) : bits .and .u32 (x : Int) ((2 ^ (n % 32) : Nat) : Int) = if x.testBit (n % 32) then ((2 ^ (n % 32) : Nat) : Int) else 0 := by
  have h := (bits_nat .u32 32 (by decide) wraps_u32 x (2 ^ (n % 32)) hx (pow_lt n)).1
  rw [h]
  have e : x &&& 2 ^ (n % 32) = if x.testBit (n % 32) then 2 ^ (n % 32) else 0 := by
    apply Nat.eq_of_testBit_eq
    intro i
    rw [Nat.testBit_and, Nat.testBit_two_pow]
    by_cases hi : n % 32 = i
    · subst hi
      cases hb : x.testBit (n % 32) <;> simp
    · split <;> simp [hi, Nat.testBit_two_pow]
  rw [e]
  split <;> rfl
theorem or_bit (x n : Nat) (hx : x < 2 ^ 32) : bits .or .u32 (x : Int) ((2 ^ (n % 32) : Nat) : Int) = ((x ||| 2 ^ (n % 32) : Nat) : Int) := (bits_nat .u32 32 (by decide) wraps_u32 x (2 ^ (n % 32)) hx (pow_lt n)).2
theorem vput_len (ws : List Nat) (n : Nat) : (vput ws n).length = ws.length := by simp [vput]
theorem vput_vb (ws : List Nat) (n : Nat) (h : n / 32 < ws.length) : vb (vput ws n) = mark (vb ws) n := by
  funext m
  unfold vb vput mark
  by_cases e : n / 32 = m / 32
  · have g : (ws.set (n / 32) (ws.getD (n / 32) 0 ||| 2 ^ (n % 32))).getD (m / 32) 0 = ws.getD (n / 32) 0 ||| 2 ^ (n % 32) := by
      rw [← e, List.getD_eq_getElem?_getD, List.getElem?_set_self h]
      rfl
    rw [g, Nat.testBit_or, e, Nat.testBit_two_pow]
    congr 1
    rw [Bool.eq_iff_iff, decide_eq_true_eq, beq_iff_eq]
    omega
  · have g : (ws.set (n / 32) (ws.getD (n / 32) 0 ||| 2 ^ (n % 32))).getD (m / 32) 0 = ws.getD (m / 32) 0 := by
      rw [List.getD_eq_getElem?_getD, List.getElem?_set_ne e, ← List.getD_eq_getElem?_getD]
    rw [g]
    have : (m == n) = false := by
      rw [beq_eq_false_iff_ne]
      intro h
      subst h
      exact e rfl
    rw [this, Bool.or_false]
theorem vput_lt {ws : List Nat} {n : Nat} (h : ∀ x ∈ ws, x < 2 ^ 32) : ∀ x ∈ vput ws n, x < 2 ^ 32 := by
  intro x hx
  unfold vput at hx
  rcases List.mem_or_eq_of_mem_set hx with h1 | rfl
  · exact h x h1
  · refine Nat.or_lt_two_pow ?_ (pow_lt n)
    rw [List.getD_eq_getElem?_getD]
    cases he : ws[n / 32]? with
    | none => simp
    | some y => exact h y (List.mem_of_getElem? he)
theorem vb_zero (k n : Nat) : vb (List.replicate k 0) n = false := by
  unfold vb
  have : (List.replicate k 0).getD (n / 32) 0 = 0 := by
    rw [List.getD_eq_getElem?_getD, List.getElem?_replicate]
    split <;> rfl
  rw [this, Nat.zero_testBit]
end Go.Proofs.YtekkaknpgdgjjaaGreatDoor.H

/- The backtracker's state in memory; what visits a pair, and what pushes a job. -/
namespace Go.Proofs.YtekkaknpgdgjjaaGreatDoor.H
open Go.RowKit Go.Proofs.YtekkaknpgdgjjaaGreatDoorW.PrintWords
set_option linter.unusedVariables false
set_option linter.unusedSimpArgs false
set_option maxRecDepth 100000

def jcell (j : Job) : List Value := [.int .u32 (j.pc : Int), .bool j.arg, .int .i64 j.pos]
/-- The stack's cells: the job that was pushed last stands last. -/
def jcells : List Job → List Value
  | [] => []
  | j :: js => jcells js ++ jcell j
theorem jcells_len (js : List Job) : (jcells js).length = js.length * 3 := by
  induction js with
  | nil => rfl
  | cons j js ih => rw [jcells, List.length_append, ih]; simp only [jcell, List.length_cons, List.length_nil]; omega
def ints (ws : List Nat) : List Int := ws.map Int.ofNat
structure St (W : World) (n0 bs E : Nat) (s : ByteArray) (vc vm vv : Value) (js : List Job) (ws : List Nat) (c mc : List Int) : Prop where
  blk : ∃ vj, W.heap[bs]? = some (.cells #[.int .i64 (E : Int), vc, vm, vj, vv, .string s] 151 (0, 0)) ∧ W.ownsRow n0 169 3 vj js.length (jcells js)
  base : n0 ≤ bs
  rv : W.ownsRow n0 99 1 vv ws.length (nums .u32 (ints ws))
  rc : W.ownsRow n0 3 1 vc c.length (nums .i64 c)
  rm : W.ownsRow n0 3 1 vm mc.length (nums .i64 mc)
  ne : NeRow vc vm
theorem St.grown {W W' : World} {n0 bs E : Nat} {s : ByteArray} {vc vm vv : Value} {js : List Job} {ws : List Nat} {c mc : List Int} (h : St W n0 bs E s vc vm vv js ws c mc) (hb : Below W.heap.size W W') : St W' n0 bs E s vc vm vv js ws c mc := by
  obtain ⟨⟨vj, h1, h2⟩, h3, h4, h5, h6, h7⟩ := h
  exact ⟨⟨vj, (hb.block _ (blk_lt h1)).trans h1, pw_own_below h2 hb⟩, h3, pw_own_below h4 hb, pw_own_below h5 hb, pw_own_below h6 hb, h7⟩

theorem ints_set (ws : List Nat) (i x : Nat) : (ints ws).set i (x : Int) = ints (ws.set i x) := by
  unfold ints
  rw [List.map_set]
  rfl
/-- A store into the row of visited pairs. -/
theorem St.put {W : World} {n0 bs E bv cv : Nat} {s : ByteArray} {vc vm : Value} {js : List Job} {ws : List Nat} {c mc : List Int} (h : St W n0 bs E s vc vm (.slice (some ⟨bv, 0, none⟩) ws.length cv) js ws c mc) (i : Int) (x : Nat) :
    St (W.setCell ⟨bv, i.toNat, none⟩ (.int .u32 (x : Int))) n0 bs E s vc vm (.slice (some ⟨bv, 0, none⟩) ws.length cv) js (ws.set i.toNat x) c mc := by
  obtain ⟨⟨vj, h1, h2⟩, h3, h4, h5, h6, h7⟩ := h
  obtain ⟨r1, r2⟩ := own_store h4 i (x : Int)
  rw [ints_set] at r1
  have t : ∀ {e : TypeId} {size n : Nat} {v : Value} {xs : List Value}, W.ownsRow n0 e size v n xs → e ≠ 99 → (W.setCell ⟨bv, i.toNat, none⟩ (.int .u32 (x : Int))).ownsRow n0 e size v n xs := fun ho hne => own_other ho r2 (own_type_ne ho h4 hne)
  refine ⟨⟨vj, blk_grown h1 r2 (own_ne h4 h1 (by decide)), t h2 (by decide)⟩, h3, ?_, t h5 (by decide), t h6 (by decide), h7⟩
  rw [List.length_set]
  exact r1

/-! Visiting -/
theorem idx_wrap {E pc pos : Nat} (hE : E ≤ 2147483647) (hpc : pc ≤ 2147483647) (hpos : pos ≤ E) : ∃ E1 M N Q R : Int, wrap64 ((E : Int) + 1) = E1 ∧ wrap64 ((pc : Int) * E1) = M ∧ wrap64 (M + (pos : Int)) = N ∧ IntKind.u64.wrap N = N ∧ N.tdiv 32 = Q ∧ IntKind.u64.wrap Q = Q ∧ bits .and .u64 N 31 = R ∧ Q = ((idx E pc pos / 32 : Nat) : Int) ∧ R = ((idx E pc pos % 32 : Nat) : Int) := by
  have h1 : pc * (E + 1) ≤ 2147483647 * 2147483648 := Nat.mul_le_mul hpc (by omega)
  have e : ((idx E pc pos : Nat) : Int) = (pc : Int) * ((E : Int) + 1) + (pos : Int) := by unfold idx; push_cast; rfl
  have h2 : (pc : Int) * ((E : Int) + 1) ≤ 2147483647 * 2147483648 := by
    have := Int.ofNat_le.2 h1
    rw [Int.natCast_mul, Int.natCast_add] at this
    exact this
  have h3 : 0 ≤ (pc : Int) * ((E : Int) + 1) := Int.mul_nonneg (by omega) (by omega)
  have hi : idx E pc pos < 2 ^ 63 := by
    unfold idx
    omega
  generalize idx E pc pos = n at *
  refine ⟨(E : Int) + 1, (pc : Int) * ((E : Int) + 1), (n : Int), ((n / 32 : Nat) : Int), ((n % 32 : Nat) : Int), by unfold wrap64; omega, by unfold wrap64; omega, by rw [e]; unfold wrap64; omega, by rw [IntKind.wrap_u64]; omega, ?_, by rw [IntKind.wrap_u64]; omega, ?_, rfl, rfl⟩
  · rw [Int.tdiv_eq_ediv_of_nonneg (by omega)]
    omega
  · rw [u64_and31 _ (by omega) (by omega)]
    omega
set_option maxHeartbeats 4000000 in
theorem visit_calls {n0 bs E pc pos : Nat} {s : ByteArray} {vc vm vv : Value} {js : List Job} {ws : List Nat} {c mc : List Int} (hE : E ≤ 2147483647) (hpc : pc ≤ 2147483647) (hpos : pos ≤ E) (hlen : idx E pc pos / 32 < ws.length) (hws : ∀ x ∈ ws, x < 2 ^ 32) (W : World) (h : St W n0 bs E s vc vm vv js ws c mc) :
    Calls Tryz.prog 100 #[.pointer (some ⟨bs, 0, none⟩), .int .u32 (pc : Int), .int .i64 (pos : Int)] W fun e w' => e = .returned (.bool (!vb ws (idx E pc pos))) ∧ Below n0 W w' ∧ St w' n0 bs E s vc vm vv js (if vb ws (idx E pc pos) = true then ws else vput ws (idx E pc pos)) c mc := by
  have H := Lib.hid h
  obtain ⟨⟨vj, hb, hj⟩, hbase, hv, hc, hm, hne⟩ := h
  obtain ⟨E1, M, N, Q, R, e1, e2, e3, e4, e5, e6, e7, hQ, hR⟩ := idx_wrap hE hpc hpos
  generalize idx E pc pos = n at *
  obtain ⟨bv, cv, cur, rfl, hbv⟩ : ∃ g cp cur, vv = .slice (some ⟨g, 0, none⟩) ws.length cp ∧ W.heap[g]? = some (.cells cur 99 (0, 0)) := by
    rcases hv.2 with ⟨_, h0⟩ | ⟨g, cap, cur, hvv, _, hg, _⟩
    · omega
    · exact ⟨g, cap, cur, hvv, hg⟩
  have hx := own_at hv Q (by omega) (by omega)
  have hq : Q.toNat = n / 32 := by omega
  obtain ⟨x, hx0⟩ : ∃ x, ws.getD (n / 32) 0 = x := ⟨_, rfl⟩
  have hrd : rd (ints ws) Q = (x : Int) := by
    rw [← hx0]
    simp only [rd, ints, hq, List.getD_eq_getElem?_getD, List.getElem?_map, List.getElem?_eq_getElem hlen]
    rfl
  have hxl : x < 2 ^ 32 := by
    rw [← hx0, List.getD_eq_getElem?_getD, List.getElem?_eq_getElem hlen]
    exact hws _ (List.getElem_mem hlen)
  rw [hrd] at hx
  have c0 := (blk_cell hb 0).trans (show _ = some (.int .i64 (E : Int)) from rfl)
  have c4 := (blk_cell hb 4).trans (show _ = some (.slice (some ⟨bv, 0, none⟩) ws.length cv) from rfl)
  have a0 : (0 ≤ Q) = True := eq_true (by omega)
  have a1 : (Q < (ws.length : Int)) = True := eq_true (by omega)
  have a2 : (0 ≤ R) = True := eq_true (by omega)
  obtain ⟨P, hP⟩ : ∃ P : Int, P = ((2 ^ (n % 32) : Nat) : Int) := ⟨_, rfl⟩
  have e8 : IntKind.u32.wrap (2 ^ min R.toNat 32) = P := by
    rw [hP, hR, Int.toNat_natCast, Nat.min_eq_left (by omega), show ((2 : Int) ^ (n % 32)) = ((2 ^ (n % 32) : Nat) : Int) by push_cast; rfl]
    exact wraps_u32 _ (Int.natCast_nonneg _) (by exact_mod_cast pow_lt n)
  obtain ⟨hx1, hx2⟩ := hx
  have K := Lib.hid (And.intro (And.intro hQ hx0) (And.intro hv (And.intro hb hbv)))
  have hE' := Lib.hid hE
  have ec : wrap64 (pc : Int) = (pc : Int) := by unfold wrap64; omega
  have and0 := and_bit x n hxl
  have or0 := or_bit x n hxl
  rw [← hP] at and0 or0
  have hP0 := Lib.hid hP
  have eb : vb ws n = x.testBit (n % 32) := by unfold vb; rw [hx0]
  clear hE hpc hpos hb hj hc hm hne hlen hws hrd hxl hv hQ hR hq hbv hP
  rw [eb]
  cases hbit : x.testBit (n % 32) with
  | true =>
    rw [hbit, if_pos rfl] at and0
    have b1 : (P != 0) = true := by
      rw [bne_iff_ne, hP0.out]
      have := Nat.pos_of_ne_zero (show 2 ^ (n % 32) ≠ 0 from Nat.pos_iff_ne_zero.1 (Nat.two_pow_pos _))
      omega
    clear hx0 hbit eb or0
    go_enter Tryz.func100, Tryz.ntmps100
    go_wp2
    go_ret
    exact ⟨rfl, Below.refl _ _, H.out⟩
  | false =>
    rw [hbit, if_neg (by simp)] at and0
    clear hx0 hbit eb
    go_enter Tryz.func100, Tryz.ntmps100
    go_wp2
    go_ret
    obtain ⟨⟨k1, k2⟩, k3, k4, k5⟩ := K.out
    refine ⟨rfl, (Below.refl _ _).setCell (by have := own_base k3 bv rfl; exact this) _, ?_⟩
    have := H.out.put Q (x ||| 2 ^ (n % 32))
    have e : ws.set Q.toNat (x ||| 2 ^ (n % 32)) = vput ws n := by
      unfold vput
      rw [k2, k1, Int.toNat_natCast]
    rw [e] at this
    simpa using this
end Go.Proofs.YtekkaknpgdgjjaaGreatDoor.H

/- The backtracker's stack of jobs: what pushes one, and what its top reads as. -/
namespace Go.Proofs.YtekkaknpgdgjjaaGreatDoor.H
open Go.RowKit Go.Proofs.YtekkaknpgdgjjaaGreatDoorW.PrintWords
set_option linter.unusedVariables false
set_option linter.unusedSimpArgs false
set_option maxRecDepth 100000

theorem grown_set (W : World) (g i : Nat) (u : Value) : W.grownBy (W.setCell ⟨g, i, none⟩ u) (some g) :=
  ⟨rfl, rfl, rfl, by simp, fun k _ hk => heap_setCell_other W ⟨g, i, none⟩ k u (fun e => hk (by simp [e]))⟩
/-- The state with another stack. -/
theorem St.rejob {W w1 : World} {n0 bs E : Nat} {s : ByteArray} {vc vm vv vj v1 : Value} {js js' : List Job} {ws : List Nat} {c mc : List Int} (h : St W n0 bs E s vc vm vv js ws c mc)
    (hb : W.heap[bs]? = some (.cells #[.int .i64 (E : Int), vc, vm, vj, vv, .string s] 151 (0, 0))) (hj : W.ownsRow n0 169 3 vj js.length (jcells js))
    (hg : W.grownBy w1 vj.ownBlock) (h1 : w1.ownsRow n0 169 3 v1 js'.length (jcells js')) :
    St (w1.setCell ⟨bs, 3, none⟩ v1) n0 bs E s vc vm vv js' ws c mc := by
  obtain ⟨_, h3, h4, h5, h6, h7⟩ := h
  have hb1 := blk_grown hb hg (own_ne hj hb (by decide))
  have r2 := grown_set w1 bs 3 v1
  have t1 : ∀ {e : TypeId} {size n : Nat} {v : Value} {xs : List Value}, W.ownsRow n0 e size v n xs → e ≠ 169 → w1.ownsRow n0 e size v n xs := fun ho hne => own_other ho hg (own_type_ne ho hj hne)
  have t2 : ∀ {e : TypeId} {size n : Nat} {v : Value} {xs : List Value}, w1.ownsRow n0 e size v n xs → e ≠ 151 → (w1.setCell ⟨bs, 3, none⟩ v1).ownsRow n0 e size v n xs := fun ho hne => own_other ho r2 (.inr (fun hh => own_ne ho hb1 hne hh.symm))
  refine ⟨⟨v1, ?_, t2 h1 (by decide)⟩, h3, t2 (t1 h4 (by decide)) (by decide), t2 (t1 h5 (by decide)) (by decide), t2 (t1 h6 (by decide)) (by decide), h7⟩
  have := blk_set hb1 3 v1
  exact this
/-- What the stack's top reads as, and the state without it. -/
theorem St.top {W : World} {n0 bs E : Nat} {s : ByteArray} {vc vm vv : Value} {j : Job} {js : List Job} {ws : List Nat} {c mc : List Int} (h : St W n0 bs E s vc vm vv (j :: js) ws c mc) :
    ∃ g cp, W.cell? ⟨bs, 3, none⟩ = some (.slice (some ⟨g, 0, none⟩) (js.length + 1) cp) ∧ js.length + 1 ≤ cp ∧ W.cell? ⟨g, js.length * 3, none⟩ = some (.int .u32 (j.pc : Int)) ∧ W.cell? ⟨g, js.length * 3 + 1, none⟩ = some (.bool j.arg) ∧ W.cell? ⟨g, js.length * 3 + 2, none⟩ = some (.int .i64 j.pos) ∧
      W.frozen? ⟨bs, 3, none⟩ = false ∧ St (W.setCell ⟨bs, 3, none⟩ (.slice (some ⟨g, 0, none⟩) js.length cp)) n0 bs E s vc vm vv js ws c mc := by
  obtain ⟨vj, hb, hj⟩ := h.blk
  obtain ⟨g, cp, rfl, hg, hcap⟩ : ∃ g cp, vj = .slice (some ⟨g, 0, none⟩) (js.length + 1) cp ∧ n0 ≤ g ∧ js.length + 1 ≤ cp := by
    rcases hj.2 with ⟨_, h0⟩ | ⟨g, cap, cur, hvv, hg, _, hc, _⟩
    · simp at h0
    · exact ⟨g, cap, hvv, hg, hc⟩
  have at_ : ∀ i, i < 3 → W.cell? ⟨g, js.length * 3 + i, none⟩ = (jcell j)[i]? := by
    intro i hi
    have := hj.cellAt (js.length * 3 + i) (by show js.length * 3 + i < (js.length + 1) * 3; omega)
    rw [this, jcells, List.getElem?_append_right (by rw [jcells_len]; omega), jcells_len]
    congr 1
    omega
  refine ⟨g, cp, (blk_cell hb 3).trans rfl, hcap, (at_ 0 (by decide)).trans rfl, (at_ 1 (by decide)).trans rfl, (at_ 2 (by decide)).trans rfl, blk_frozen hb 3, ?_⟩
  refine h.rejob (w1 := W) hb hj ⟨rfl, rfl, rfl, Nat.le_refl _, fun _ _ _ => rfl⟩ ?_
  have := own_take hj (m := js.length) (by simp)
  have e : (jcells (j :: js)).take (js.length * 3) = jcells js := by
    rw [jcells, ← jcells_len js, List.take_left]
  rw [e] at this
  exact this

/-! The compiled expression in memory, as far as the engine reads it -/
structure Rx (w : World) (re : Nat) (L : List Bi) (start ncap nsub mn : Nat) (cond : Int) : Prop where
  cond : w.cell? ⟨re, 13, none⟩ = some (.int .u8 cond)
  pre : w.cell? ⟨re, 6, none⟩ = some (.string ⟨#[]⟩)
  min : w.cell? ⟨re, 14, none⟩ = some (.int .i64 (mn : Int))
  nsub : w.cell? ⟨re, 3, none⟩ = some (.int .i64 (nsub : Int))
  longest : w.cell? ⟨re, 15, none⟩ = some (.bool false)
  prog : ∃ go gi c, w.cell? ⟨re, 1, none⟩ = some (.pointer (some ⟨go, 0, none⟩)) ∧ w.cell? ⟨go, 0, none⟩ = some (.slice (some ⟨gi, 0, none⟩) L.length c) ∧ w.cell? ⟨go, 1, none⟩ = some (.int .i64 (start : Int)) ∧ w.cell? ⟨go, 2, none⟩ = some (.int .i64 (ncap : Int)) ∧
    ∀ (pc : Nat) (I : Bi), L[pc]? = some I → InsAt w gi (4 * pc) I
theorem Rx.below {w w' : World} {re : Nat} {L : List Bi} {start ncap nsub mn : Nat} {cond : Int} (h : Rx w re L start ncap nsub mn cond) (hb : Below w.heap.size w w') : Rx w' re L start ncap nsub mn cond := by
  obtain ⟨h1, h2, h3, hs, hl, go, gi, c, h4, h5, h6, h7, h8⟩ := h
  exact ⟨cell_below h1 hb, cell_below h2 hb, cell_below h3 hb, cell_below hs hb, cell_below hl hb, go, gi, c, cell_below h4 hb, cell_below h5 hb, cell_below h6 hb, cell_below h7 hb, fun pc I hI => (h8 pc I hI).below hb⟩

theorem info169 : (Tryz.prog.info? 169).map (fun i => (i.zero, i.size, i.bytes)) = some (some (.agg #[.int .u32 0, .bool false, .int .i64 0]), 3, 16) := by kernel_rfl
set_option maxHeartbeats 4000000 in
theorem push_calls {w0 : World} {re : Nat} {L : List Bi} {start ncap nsub mn : Nat} {cond : Int} (hx : Rx w0 re L start ncap nsub mn cond) {pc : Nat} {I : Bi} (hI : L[pc]? = some I) (h5 : I.op ≠ 5) (hL : L.length ≤ 100000) {bs E : Nat} {s : ByteArray} {vc vm vv : Value} {js : List Job} {ws : List Nat} {c mc : List Int} (pos : Int)
    (hlen : (js.length + 1) * 16 ≤ 140737488355328) (W : World) (hB : Below w0.heap.size w0 W) (h : St W w0.heap.size bs E s vc vm vv js ws c mc) :
    Calls Tryz.prog 99 #[.pointer (some ⟨bs, 0, none⟩), .pointer (some ⟨re, 0, none⟩), .int .u32 (pc : Int), .int .i64 pos, .bool true] W fun e w' => e = .returned (.tuple #[]) ∧ Below w0.heap.size w0 w' ∧ St w' w0.heap.size bs E s vc vm vv (⟨pc, true, pos⟩ :: js) ws c mc := by
  have H := Lib.hid h
  obtain ⟨vj, hb, hj⟩ := h.blk
  obtain ⟨_, _, _, _, _, go, gi, cp, h4, h6, _, _, h7⟩ := hx.below hB
  have hop := (h7 pc I hI).op
  rw [Nat.mul_comm] at hop
  have hpc := (List.getElem?_eq_some_iff.1 hI).1
  have a0 : (0 ≤ (pc : Int)) = True := eq_true (by omega)
  have a1 : ((pc : Int) < (L.length : Int)) = True := eq_true (by omega)
  have b5 : (I.op != 5) = true := by rw [bne_iff_ne]; exact h5
  have c3 := (blk_cell hb 3).trans (show _ = some vj from rfl)
  have HB := Lib.hid hB
  have HJ := Lib.hid hj
  have HH := Lib.hid hb
  have HL := Lib.hid hlen
  obtain ⟨A, cj, rfl⟩ := own_slice hj
  have f3 := fun (w1 : World) (hg : W.grownBy w1 (Value.slice A js.length cj).ownBlock) => And.intro (blk_frozen (blk_grown hb hg (own_ne hj hb (by decide))) 3) ((blk_cell (blk_grown hb hg (own_ne hj hb (by decide))) 3).trans (show _ = some (.slice A js.length cj) from rfl))
  clear hx h h7 hI h5 hL hpc hB hj hb hlen
  go_enter Tryz.func99, Tryz.ntmps99
  go_wp2_with ((with_reducible refine gate_builtin (b := .append) (xs := #[.tmp 35, .tmp 40]) rfl ?_); at_builtin; refine print_append_cells (w0 := w0) w0.heap.size rfl (.tmp 35) (.tmp 40) 145 169 (.agg #[.int .u32 0, .bool false, .int .i64 0]) 3 16 rfl Tryz.underlying145 info169 rfl (by decide) (by decide) (.slice A js.length cj) js.length (jcells js) [.int .u32 (pc : Int), .bool true, .int .i64 pos] rfl rfl rfl ?h1 HJ.out HB.out HB.out.size HL.out ?_; (case h1 => exact (by intro u hu; simp at hu; rcases hu with rfl | rfl | rfl <;> rfl)); intro v8 w8 h8 b8 gb8 hat8; have HO8 := Lib.hid h8; have HB8 := Lib.hid b8; have HG8 := Lib.hid gb8; obtain ⟨f8, k8⟩ := f3 w8 gb8; obtain ⟨A8, c8, rfl⟩ := own_slice h8; clear h8 b8 gb8 hat8 f3)
  go_returns
  exact ⟨rfl, below_set HB8.out (by have := H.out.base; exact this), H.out.rejob (js' := ⟨pc, true, pos⟩ :: js) HH.out HJ.out HG8.out HO8.out⟩
set_option maxHeartbeats 4000000 in
theorem push0_calls {w0 : World} {re : Nat} {L : List Bi} {start ncap nsub mn : Nat} {cond : Int} (hx : Rx w0 re L start ncap nsub mn cond) {pc : Nat} {I : Bi} (hI : L[pc]? = some I) (h5 : I.op ≠ 5) (hL : L.length ≤ 100000) {bs E : Nat} {s : ByteArray} {vc vm vv : Value} {js : List Job} {ws : List Nat} {c mc : List Int} (pos : Nat) (hE : E ≤ 2147483647) (hpos : pos ≤ E) (hvl : idx E pc pos / 32 < ws.length) (hws : ∀ x ∈ ws, x < 2 ^ 32)
    (hlen : (js.length + 1) * 16 ≤ 140737488355328) (W : World) (hB : Below w0.heap.size w0 W) (h : St W w0.heap.size bs E s vc vm vv js ws c mc) :
    Calls Tryz.prog 99 #[.pointer (some ⟨bs, 0, none⟩), .pointer (some ⟨re, 0, none⟩), .int .u32 (pc : Int), .int .i64 (pos : Int), .bool false] W fun e w' => e = .returned (.tuple #[]) ∧ Below w0.heap.size w0 w' ∧ St w' w0.heap.size bs E s vc vm vv (if vb ws (idx E pc pos) = true then js else ⟨pc, false, (pos : Int)⟩ :: js) (if vb ws (idx E pc pos) = true then ws else vput ws (idx E pc pos)) c mc := by
  obtain ⟨_, _, _, _, _, go, gi, cp, h4, h6, _, _, h7⟩ := hx.below hB
  have hop := (h7 pc I hI).op
  rw [Nat.mul_comm] at hop
  have hpc := (List.getElem?_eq_some_iff.1 hI).1
  have a0 : (0 ≤ (pc : Int)) = True := eq_true (by omega)
  have a1 : ((pc : Int) < (L.length : Int)) = True := eq_true (by omega)
  have b5 : (I.op != 5) = true := by rw [bne_iff_ne]; exact h5
  have V := Lib.hid (visit_calls hE (by omega) hpos hvl hws W h)
  have HB := Lib.hid hB
  have HL := Lib.hid hlen
  clear hx h h7 hI h5 hL hpc hB hlen hvl hws hE hpos
  cases hv : vb ws (idx E pc pos) with
  | true =>
    rw [hv] at V
    clear hv
    go_enter Tryz.func99, Tryz.ntmps99
    go_wp2_with (go_at_call 100; refine V.out.mono ?_; rintro e w1 ⟨rfl, hb1, hs1⟩)
    go_returns
    exact ⟨rfl, HB.out.trans hb1, hs1⟩
  | false =>
    rw [hv] at V
    clear hv
    go_enter Tryz.func99, Tryz.ntmps99
    go_wp2_with (first | (go_at_call 100; refine V.out.mono ?_; rintro e w1 ⟨rfl, hb1, hs1⟩; obtain ⟨vj, hb, hj⟩ := hs1.blk; obtain ⟨A, cj, rfl⟩ := own_slice hj; have c3 := (blk_cell hb 3).trans (show _ = some (.slice A js.length cj) from rfl); have H := Lib.hid hs1; have HB1 := Lib.hid (HB.out.trans hb1); have HJ := Lib.hid hj; have HH := Lib.hid hb; have F3 := fun (w2 : World) (hg : w1.grownBy w2 (Value.slice A js.length cj).ownBlock) => And.intro (blk_frozen (blk_grown hb hg (own_ne hj hb (by decide))) 3) ((blk_cell (blk_grown hb hg (own_ne hj hb (by decide))) 3).trans (show _ = some (.slice A js.length cj) from rfl)); clear hs1 hb1 hj hb) | ((with_reducible refine gate_builtin (b := .append) (xs := #[.tmp 35, .tmp 40]) rfl ?_); at_builtin; refine print_append_cells (w0 := w0) w0.heap.size rfl (.tmp 35) (.tmp 40) 145 169 (.agg #[.int .u32 0, .bool false, .int .i64 0]) 3 16 rfl Tryz.underlying145 info169 rfl (by decide) (by decide) (.slice A js.length cj) js.length (jcells js) [.int .u32 (pc : Int), .bool false, .int .i64 (pos : Int)] rfl rfl rfl ?h1 HJ.out HB1.out HB1.out.size HL.out ?_; (case h1 => exact (by intro u hu; simp at hu; rcases hu with rfl | rfl | rfl <;> rfl)); intro v8 w8 h8 b8 gb8 hat8; have HO8 := Lib.hid h8; have HB8 := Lib.hid b8; have HG8 := Lib.hid gb8; obtain ⟨f8, k8⟩ := F3 w8 gb8; obtain ⟨A8, c8, rfl⟩ := own_slice h8; clear h8 b8 gb8 hat8 F3))
    go_returns
    exact ⟨rfl, below_set HB8.out (by have := H.out.base; exact this), H.out.rejob (js' := ⟨pc, false, (pos : Int)⟩ :: js) HH.out HJ.out HG8.out HO8.out⟩
end Go.Proofs.YtekkaknpgdgjjaaGreatDoor.H
