/- Texts of this claim, joined. -/
import Derived.Test.YtekkaknpgdgjjaaGreatDoorBtW1
import Derived.Test.YtekkaknpgdgjjaaGreatDoorEngW1
import Derived.Scope
import Derived.Test.YtekkaknpgdgjjaaGreatDoorWWordsW1
import Derived.Laws.CopyOwn
/- A scope with two labels to which the run jumps; the backtracker's loop, told step by step. -/
namespace Go.Proofs.YtekkaknpgdgjjaaGreatDoor.H
open Go.RowKit Go.Proofs.YtekkaknpgdgjjaaGreatDoorW.PrintWords
set_option linter.unusedVariables false
set_option linter.unusedSimpArgs false
set_option maxRecDepth 100000

/-- As Q; by a goto to a label: what is asked there. -/
def exitAt (K : Nat → Act → World → Prop) (Q : Exit → Act → World → Prop) : Exit → Act → World → Prop
  | .goto l, a, w => K l a w
  | e, a, w => Q e a w
theorem wp_scope_two {P : Program} {a : Act} {w : World} {Q : Exit → Act → World → Prop} {c r0 r1 : Code} (l0 l1 : Nat) (J0 J1 : Nat → Act → World → Prop) (hf0 : findLabel c l0 = some (.seq .skip r0)) (hf1 : findLabel c l1 = some r1) (hne : l1 ≠ l0)
    (first : ∀ K : Nat → Act → World → Prop, (∀ n a' w', J0 n a' w' → K l0 a' w') → c.wp P (exitAt K Q) a w)
    (pass0 : ∀ n a' w', J0 n a' w' → ∀ K : Nat → Act → World → Prop, (∀ m a'' w'', m < n → J1 m a'' w'' → K l1 a'' w'') → r0.wp P (exitAt K Q) a' w')
    (pass1 : ∀ n a' w', J1 n a' w' → ∀ K : Nat → Act → World → Prop, (∀ m a'' w'', m < n → J0 m a'' w'' → r0.wp P (exitAt K Q) a'' w'') → r1.wp P (exitAt K Q) a' w') : (Code.scope c).wp P Q a w := by
  intro b k cs
  have hg0 : gotoIn l0 (.inScope c :: k) = some (.code (.seq .skip r0) :: .inScope c :: k) := by simp [gotoIn, hf0]
  have hg1 : gotoIn l1 (.inScope c :: k) = some (.code r1 :: .inScope c :: k) := by simp [gotoIn, hf1]
  have key : ∀ n, (∀ a w, J0 n a w → ∃ e a' w', Q e a' w' ∧ Arrives P (lone (b.at a (.code (.seq .skip r0) :: .inScope c :: k)) cs w) b k cs e a' w') ∧ (∀ a w, J1 n a w → ∃ e a' w', Q e a' w' ∧ Arrives P (lone (b.at a (.code r1 :: .inScope c :: k)) cs w) b k cs e a' w') := by
    intro n
    induction n using Nat.strongRecOn with
    | _ n ih =>
      constructor
      · intro a w hJ
        obtain ⟨e, a₁, w₁, hq, harr⟩ := wp_seq (wp_skip (pass0 n a w hJ (fun l a' w' => l = l1 ∧ ∃ m, m < n ∧ J1 m a' w') (fun m a'' w'' hm h => ⟨rfl, m, hm, h⟩))) b (.inScope c :: k) cs
        cases e with
        | normal => exact ⟨.normal, a₁, w₁, hq, Steps.trans harr (.one step_inScope)⟩
        | exit id => exact ⟨.exit id, a₁, w₁, hq, fun k' hk => harr k' (by simp [exitTo, hk])⟩
        | goto l' =>
          obtain ⟨rfl, m, hlt, hJ'⟩ := hq
          obtain ⟨e₂, a₂, w₂, hq₂, harr₂⟩ := (ih m hlt).2 a₁ w₁ hJ'
          exact ⟨e₂, a₂, w₂, hq₂, .of_steps (harr _ hg1) harr₂⟩
        | ret => exact ⟨_, a₁, w₁, hq, harr⟩
        | panic ch => exact ⟨_, a₁, w₁, hq, harr⟩
        | outgrown => exact ⟨_, a₁, w₁, hq, harr⟩
      · intro a w hJ
        obtain ⟨e, a₁, w₁, hq, harr⟩ := pass1 n a w hJ (fun l a' w' => l = l1 ∧ ∃ m, m < n ∧ J1 m a' w') (fun m a'' w'' hm h => pass0 m a'' w'' h _ (fun m' a3 w3 hm' h' => ⟨rfl, m', by omega, h'⟩)) b (.inScope c :: k) cs
        cases e with
        | normal => exact ⟨.normal, a₁, w₁, hq, Steps.trans harr (.one step_inScope)⟩
        | exit id => exact ⟨.exit id, a₁, w₁, hq, fun k' hk => harr k' (by simp [exitTo, hk])⟩
        | goto l' =>
          obtain ⟨rfl, m, hlt, hJ'⟩ := hq
          obtain ⟨e₂, a₂, w₂, hq₂, harr₂⟩ := (ih m hlt).2 a₁ w₁ hJ'
          exact ⟨e₂, a₂, w₂, hq₂, .of_steps (harr _ hg1) harr₂⟩
        | ret => exact ⟨_, a₁, w₁, hq, harr⟩
        | panic ch => exact ⟨_, a₁, w₁, hq, harr⟩
        | outgrown => exact ⟨_, a₁, w₁, hq, harr⟩
  obtain ⟨e, a₁, w₁, hq, harr⟩ := first (fun l a' w' => l = l0 ∧ ∃ n, J0 n a' w') (fun n a' w' h => ⟨rfl, n, h⟩) b (.inScope c :: k) cs
  cases e with
  | normal => exact ⟨.normal, a₁, w₁, hq, .head step_scope (Steps.trans harr (.one step_inScope))⟩
  | exit id => exact ⟨.exit id, a₁, w₁, hq, fun k' hk => .head step_scope (harr k' (by simp [exitTo, hk]))⟩
  | goto l' =>
    obtain ⟨rfl, n, hJ'⟩ := hq
    obtain ⟨e₂, a₂, w₂, hq₂, harr₂⟩ := (key n).1 a₁ w₁ hJ'
    exact ⟨e₂, a₂, w₂, hq₂, .of_steps (.head step_scope (harr _ hg0)) harr₂⟩
  | ret => exact ⟨_, a₁, w₁, hq, .of_steps (.one step_scope) harr⟩
  | panic ch => exact ⟨_, a₁, w₁, hq, .of_steps (.one step_scope) harr⟩
  | outgrown => exact ⟨_, a₁, w₁, hq, .of_steps (.one step_scope) harr⟩

/-! What one step of the backtracker's loop says, an instruction's kind at a time -/
section
variable {L : List Bi} {t : Nat → Int} {E B k pc pos : Nat} {js : List Job} {V : Nat → Bool} {c : List Int} {R : Bool × (Nat → Bool) × List Int} {I : Bi}
theorem bt_chk (h : bt L t E B k (.chk pc pos) js V c = some R) : ∃ m, k = m + 1 ∧ if V (idx E pc pos) = true then bt L t E B m .pop js V c = some R else bt L t E B m (.exec pc pos) js (mark V (idx E pc pos)) c = some R := by
  cases k with
  | zero => cases h
  | succ m =>
    refine ⟨m, rfl, ?_⟩
    rw [bt] at h
    split
    · rename_i hv; rwa [if_pos hv] at h
    · rename_i hv; rwa [if_neg hv] at h
theorem bt_ctl (h : bt L t E B k (.exec pc pos) js V c = some R) (hI : L[pc]? = some I) : ∃ m, k = m + 1 ∧ (match ctl t E I pos with
      | .bad => none
      | .fail => bt L t E B m .pop js V c
      | .acc => some (true, V, if 1 < c.length then c.set 1 pos else c)
      | .alt => if js.length < B then bt L t E B m (.chk I.out.toNat pos) (⟨pc, true, pos⟩ :: js) V c else none
      | .cap => if I.arg.toNat < c.length then (if js.length < B then bt L t E B m (.chk I.out.toNat pos) (⟨pc, true, rdI c I.arg⟩ :: js) V (c.set I.arg.toNat pos) else none) else bt L t E B m (.chk I.out.toNat pos) js V c
      | .go pos' => bt L t E B m (.chk I.out.toNat pos') js V c) = some R := by
  cases k with
  | zero => cases h
  | succ m =>
    refine ⟨m, rfl, ?_⟩
    rw [bt, hI] at h
    exact h
theorem bt_alt (h : bt L t E B k (.exec pc pos) js V c = some R) (hI : L[pc]? = some I) (h0 : I.op = 0) : ∃ m, k = m + 1 ∧ js.length < B ∧ bt L t E B m (.chk I.out.toNat pos) (⟨pc, true, pos⟩ :: js) V c = some R := by
  obtain ⟨m, e, h⟩ := bt_ctl h hI
  rw [show ctl t E I pos = .alt by simp [ctl, h0]] at h
  dsimp only at h
  split at h
  · rename_i hl; exact ⟨m, e, hl, h⟩
  · cases h
theorem bt_cap (h : bt L t E B k (.exec pc pos) js V c = some R) (hI : L[pc]? = some I) (h0 : I.op = 2) : ∃ m, k = m + 1 ∧ ((I.arg.toNat < c.length ∧ js.length < B ∧ bt L t E B m (.chk I.out.toNat pos) (⟨pc, true, rdI c I.arg⟩ :: js) V (c.set I.arg.toNat pos) = some R) ∨ (¬ I.arg.toNat < c.length ∧ bt L t E B m (.chk I.out.toNat pos) js V c = some R)) := by
  obtain ⟨m, e, h⟩ := bt_ctl h hI
  rw [show ctl t E I pos = .cap by simp [ctl, h0]] at h
  dsimp only at h
  refine ⟨m, e, ?_⟩
  split at h
  · rename_i ha
    split at h
    · rename_i hl; exact .inl ⟨ha, hl, h⟩
    · cases h
  · rename_i ha; exact .inr ⟨ha, h⟩
theorem bt_acc (h : bt L t E B k (.exec pc pos) js V c = some R) (hI : L[pc]? = some I) (h0 : I.op = 4) (hc : 1 < c.length) : R = (true, V, c.set 1 pos) := by
  obtain ⟨m, e, h⟩ := bt_ctl h hI
  rw [show ctl t E I pos = .acc by simp [ctl, h0]] at h
  dsimp only at h
  rw [if_pos hc] at h
  cases h
  rfl
theorem bt_nop (h : bt L t E B k (.exec pc pos) js V c = some R) (hI : L[pc]? = some I) (h0 : I.op = 6) : ∃ m, k = m + 1 ∧ bt L t E B m (.chk I.out.toNat pos) js V c = some R := by
  obtain ⟨m, e, h⟩ := bt_ctl h hI
  rw [show ctl t E I pos = .go pos by simp [ctl, h0]] at h
  exact ⟨m, e, h⟩
theorem bt_rune (h : bt L t E B k (.exec pc pos) js V c = some R) (hI : L[pc]? = some I) (h0 : I.op = 7) : ∃ m, k = m + 1 ∧ ((mrp I.rs (t pos) = -1 ∧ bt L t E B m .pop js V c = some R) ∨ (mrp I.rs (t pos) ≠ -1 ∧ pos < E ∧ bt L t E B m (.chk I.out.toNat (pos + 1)) js V c = some R)) := by
  obtain ⟨m, e, h⟩ := bt_ctl h hI
  refine ⟨m, e, ?_⟩
  by_cases hm : mrp I.rs (t pos) = -1
  · rw [show ctl t E I pos = .fail by simp [ctl, h0, hm]] at h
    exact .inl ⟨hm, h⟩
  · by_cases hp : pos < E
    · rw [show ctl t E I pos = .go (pos + 1) by simp [ctl, h0, hm, hp]] at h
      exact .inr ⟨hm, hp, h⟩
    · rw [show ctl t E I pos = .bad by simp [ctl, h0, hm, hp]] at h
      cases h
theorem bt_rune1 (h : bt L t E B k (.exec pc pos) js V c = some R) (hI : L[pc]? = some I) (h0 : I.op = 8) : ∃ m, k = m + 1 ∧ ((t pos ≠ rdI I.rs 0 ∧ bt L t E B m .pop js V c = some R) ∨ (t pos = rdI I.rs 0 ∧ pos < E ∧ bt L t E B m (.chk I.out.toNat (pos + 1)) js V c = some R)) := by
  obtain ⟨m, e, h⟩ := bt_ctl h hI
  refine ⟨m, e, ?_⟩
  by_cases hm : t pos = rdI I.rs 0
  · by_cases hp : pos < E
    · rw [show ctl t E I pos = .go (pos + 1) by simp [ctl, h0, hm, hp]] at h
      exact .inr ⟨hm, hp, h⟩
    · rw [show ctl t E I pos = .bad by simp [ctl, h0, hm, hp]] at h
      cases h
  · rw [show ctl t E I pos = .fail by simp [ctl, h0, hm]] at h
    exact .inl ⟨hm, h⟩
theorem bt_empty (h : bt L t E B k (.exec pc pos) js V c = some R) (hI : L[pc]? = some I) (h0 : I.op = 3) : ∃ m, k = m + 1 ∧ ((I.arg = 4 ∧ ((pos = 0 ∧ bt L t E B m (.chk I.out.toNat pos) js V c = some R) ∨ (pos ≠ 0 ∧ bt L t E B m .pop js V c = some R))) ∨ (I.arg = 8 ∧ ((t pos < 0 ∧ bt L t E B m (.chk I.out.toNat pos) js V c = some R) ∨ (¬ t pos < 0 ∧ bt L t E B m .pop js V c = some R)))) := by
  obtain ⟨m, e, h⟩ := bt_ctl h hI
  refine ⟨m, e, ?_⟩
  by_cases h4 : I.arg = 4
  · by_cases hp : pos = 0
    · rw [show ctl t E I pos = .go pos by simp [ctl, h0, h4, hp]] at h
      exact .inl ⟨h4, .inl ⟨hp, h⟩⟩
    · rw [show ctl t E I pos = .fail by simp [ctl, h0, h4, hp]] at h
      exact .inl ⟨h4, .inr ⟨hp, h⟩⟩
  · by_cases h8 : I.arg = 8
    · by_cases hp : t pos < 0
      · rw [show ctl t E I pos = .go pos by simp [ctl, h0, h8, hp]] at h
        exact .inr ⟨h8, .inl ⟨hp, h⟩⟩
      · rw [show ctl t E I pos = .fail by simp [ctl, h0, h8, hp]] at h
        exact .inr ⟨h8, .inr ⟨hp, h⟩⟩
    · rw [show ctl t E I pos = .bad by simp [ctl, h0, h4, h8]] at h
      cases h
theorem bt_bad (h : bt L t E B k (.exec pc pos) js V c = some R) (hI : L[pc]? = some I) (h0 : I.op = 5) : False := by
  obtain ⟨m, e, h⟩ := bt_ctl h hI
  rw [show ctl t E I pos = .bad by simp [ctl, h0]] at h
  cases h
theorem bt_pop0 (h : bt L t E B k .pop [] V c = some R) : R = (false, V, c) := by
  cases k with
  | zero => cases h
  | succ m => rw [bt] at h; cases h; rfl
theorem bt_popF {p : Int} (h : bt L t E B k .pop (⟨pc, false, p⟩ :: js) V c = some R) : ∃ m, k = m + 1 ∧ bt L t E B m (.exec pc p.toNat) js V c = some R := by
  cases k with
  | zero => cases h
  | succ m => exact ⟨m, rfl, by rwa [bt] at h⟩
theorem bt_popT {p : Int} (h : bt L t E B k .pop (⟨pc, true, p⟩ :: js) V c = some R) (hI : L[pc]? = some I) : ∃ m, k = m + 1 ∧ ((I.op = 0 ∧ bt L t E B m (.chk I.arg.toNat p.toNat) js V c = some R) ∨ (I.op = 2 ∧ bt L t E B m .pop js V (c.set I.arg.toNat p) = some R)) := by
  cases k with
  | zero => cases h
  | succ m =>
    refine ⟨m, rfl, ?_⟩
    rw [bt, hI] at h
    dsimp only at h
    split at h
    · rename_i h0; exact .inl ⟨h0, h⟩
    · split at h
      · rename_i h2; exact .inr ⟨h2, h⟩
      · cases h
end
end Go.Proofs.YtekkaknpgdgjjaaGreatDoor.H

/- A frame of 401 slots, told by a few of them. -/
namespace Go.Proofs.YtekkaknpgdgjjaaGreatDoor.H
open Go.RowKit Go.Proofs.YtekkaknpgdgjjaaGreatDoorW.PrintWords
set_option linter.unusedVariables false
set_option linter.unusedSimpArgs false
set_option maxRecDepth 100000

theorem arr_range (t : Array Value) (n : Nat) (h : t.size = n) : t = ((List.range n).map (fun i => t.getD i undef)).toArray := by
  apply Array.ext
  · simp [h]
  · intro i h1 h2
    simp [h1]
theorem frame90 (a : Act) (v0 v1 v2 v10 v11 v13 v14 v15 : Value) (hs : a.tmps.size = 401) (hd : a.defers = []) (h0 : a.tmps.getD 0 undef = v0) (h1 : a.tmps.getD 1 undef = v1) (h2 : a.tmps.getD 2 undef = v2) (h10 : a.tmps.getD 10 undef = v10) (h11 : a.tmps.getD 11 undef = v11) (h13 : a.tmps.getD 13 undef = v13) (h14 : a.tmps.getD 14 undef = v14) (h15 : a.tmps.getD 15 undef = v15) :
    ∃ u : Nat → Value, a = ⟨#[v0, v1, v2, u 3, u 4, u 5, u 6, u 7, u 8, u 9, v10, v11, u 12, v13, v14, v15, u 16, u 17, u 18, u 19, u 20, u 21, u 22, u 23, u 24, u 25, u 26, u 27, u 28, u 29, u 30, u 31, u 32, u 33, u 34, u 35, u 36, u 37, u 38, u 39, u 40, u 41, u 42, u 43, u 44, u 45, u 46, u 47, u 48, u 49, u 50, u 51, u 52, u 53, u 54, u 55, u 56, u 57, u 58, u 59, u 60, u 61, u 62, u 63, u 64, u 65, u 66, u 67, u 68, u 69, u 70, u 71, u 72, u 73, u 74, u 75, u 76, u 77, u 78, u 79, u 80, u 81, u 82, u 83, u 84, u 85, u 86, u 87, u 88, u 89, u 90, u 91, u 92, u 93, u 94, u 95, u 96, u 97, u 98, u 99, u 100, u 101, u 102, u 103, u 104, u 105, u 106, u 107, u 108, u 109, u 110, u 111, u 112, u 113, u 114, u 115, u 116, u 117, u 118, u 119, u 120, u 121, u 122, u 123, u 124, u 125, u 126, u 127, u 128, u 129, u 130, u 131, u 132, u 133, u 134, u 135, u 136, u 137, u 138, u 139, u 140, u 141, u 142, u 143, u 144, u 145, u 146, u 147, u 148, u 149, u 150, u 151, u 152, u 153, u 154, u 155, u 156, u 157, u 158, u 159, u 160, u 161, u 162, u 163, u 164, u 165, u 166, u 167, u 168, u 169, u 170, u 171, u 172, u 173, u 174, u 175, u 176, u 177, u 178, u 179, u 180, u 181, u 182, u 183, u 184, u 185, u 186, u 187, u 188, u 189, u 190, u 191, u 192, u 193, u 194, u 195, u 196, u 197, u 198, u 199, u 200, u 201, u 202, u 203, u 204, u 205, u 206, u 207, u 208, u 209, u 210, u 211, u 212, u 213, u 214, u 215, u 216, u 217, u 218, u 219, u 220, u 221, u 222, u 223, u 224, u 225, u 226, u 227, u 228, u 229, u 230, u 231, u 232, u 233, u 234, u 235, u 236, u 237, u 238, u 239, u 240, u 241, u 242, u 243, u 244, u 245, u 246, u 247, u 248, u 249, u 250, u 251, u 252, u 253, u 254, u 255, u 256, u 257, u 258, u 259, u 260, u 261, u 262, u 263, u 264, u 265, u 266, u 267, u 268, u 269, u 270, u 271, u 272, u 273, u 274, u 275, u 276, u 277, u 278, u 279, u 280, u 281, u 282, u 283, u 284, u 285, u 286, u 287, u 288, u 289, u 290, u 291, u 292, u 293, u 294, u 295, u 296, u 297, u 298, u 299, u 300, u 301, u 302, u 303, u 304, u 305, u 306, u 307, u 308, u 309, u 310, u 311, u 312, u 313, u 314, u 315, u 316, u 317, u 318, u 319, u 320, u 321, u 322, u 323, u 324, u 325, u 326, u 327, u 328, u 329, u 330, u 331, u 332, u 333, u 334, u 335, u 336, u 337, u 338, u 339, u 340, u 341, u 342, u 343, u 344, u 345, u 346, u 347, u 348, u 349, u 350, u 351, u 352, u 353, u 354, u 355, u 356, u 357, u 358, u 359, u 360, u 361, u 362, u 363, u 364, u 365, u 366, u 367, u 368, u 369, u 370, u 371, u 372, u 373, u 374, u 375, u 376, u 377, u 378, u 379, u 380, u 381, u 382, u 383, u 384, u 385, u 386, u 387, u 388, u 389, u 390, u 391, u 392, u 393, u 394, u 395, u 396, u 397, u 398, u 399, u 400], []⟩ := by
  refine ⟨fun i => a.tmps.getD i undef, ?_⟩
  have h := arr_range a.tmps _ hs
  obtain ⟨t, d⟩ := a
  simp only at *
  subst hd
  subst h0 h1 h2 h10 h11 h13 h14 h15
  refine congrArg (fun x => Act.mk x []) (h.trans ?_)
  generalize (fun i => t.getD i undef) = f
  kernel_rfl
end Go.Proofs.YtekkaknpgdgjjaaGreatDoor.H

/- What the backtracker's loop holds on to, from round to round. -/
namespace Go.Proofs.YtekkaknpgdgjjaaGreatDoor.H
open Go.RowKit Go.Proofs.YtekkaknpgdgjjaaGreatDoorW.PrintWords
set_option linter.unusedVariables false
set_option linter.unusedSimpArgs false
set_option maxRecDepth 100000
structure Fx (re bs : Nat) (a : Act) : Prop where
  size : a.tmps.size = 401
  nod : a.defers = []
  h0 : a.tmps.getD 0 undef = .pointer (some ⟨re, 0, none⟩)
  h1 : a.tmps.getD 1 undef = .pointer (some ⟨bs, 0, none⟩)
  h2 : a.tmps.getD 2 undef = .iface 178 (.pointer (some ⟨bs, 5, none⟩))
  h10 : a.tmps.getD 10 undef = .bool false
  h11 : a.tmps.getD 11 undef = .bool false
/-- An instruction of the kinds that are told, its numbers inside the program. -/
def IOk (n : Nat) (I : Bi) : Prop := (0 ≤ I.out ∧ I.out < n) ∧ (I.op = 0 → 0 ≤ I.arg ∧ I.arg < n) ∧ (I.op = 2 → 0 ≤ I.arg ∧ I.arg ≤ 4294967295) ∧ (I.op = 3 → I.arg = 4 ∨ I.arg = 8) ∧ (I.op = 7 → lenOk I.rs.length = true) ∧ (I.op = 8 → I.rs.length = 1) ∧ (I.op = 0 ∨ I.op = 2 ∨ I.op = 3 ∨ I.op = 4 ∨ I.op = 6 ∨ I.op = 7 ∨ I.op = 8 ∨ I.op = 5)
instance (n : Nat) (I : Bi) : Decidable (IOk n I) := by unfold IOk; infer_instance
structure Env (w0 : World) (re : Nat) (L : List Bi) (start ncap nsub mn : Nat) (cond : Int) (s : ByteArray) (N B nc : Nat) : Prop where
  rx : Rx w0 re L start ncap nsub mn cond
  len : L.length ≤ 100000
  ops : ∀ (pc : Nat) (I : Bi), L[pc]? = some I → IOk L.length I
  sz : s.size ≤ 2147483647
  asc : Asc7 s
  fit : ∀ pc pos, pc < L.length → pos ≤ s.size → idx s.size pc pos / 32 < N
  room : (B + 1) * 16 ≤ 140737488355328
  nc2 : 1 < nc ∧ nc ≤ 100000
def jobOk (L : List Bi) (E nc : Nat) (j : Job) : Prop := j.pc < L.length ∧ ((0 ≤ j.pos ∧ j.pos ≤ E ∧ (j.arg = true → ∃ I, L[j.pc]? = some I ∧ I.op = 0)) ∨ (j.arg = true ∧ ∃ I, L[j.pc]? = some I ∧ I.op = 2 ∧ I.arg.toNat < nc))
structure Sx (w0 wr : World) (L : List Bi) (bs : Nat) (s : ByteArray) (vc vm vv : Value) (N B nc : Nat) (js : List Job) (ws : List Nat) (c mc : List Int) : Prop where
  st : St wr w0.heap.size bs s.size s vc vm vv js ws c mc
  below : Below w0.heap.size w0 wr
  wlen : ws.length = N
  bits : ∀ x ∈ ws, x < 2 ^ 32
  jobs : ∀ j ∈ js, jobOk L s.size nc j
  jlen : js.length ≤ B
  clen : c.length = nc
section
variable (w0 : World) (L : List Bi) (bs : Nat) (s : ByteArray) (vc vm vv : Value) (N B nc : Nat) (mc : List Int) (R : Bool × (Nat → Bool) × List Int)
def rel0 (n : Nat) (v13 v14 v15 : Value) (w : World) : Prop := ∃ (pc : Nat) (p : Int) (arg : Bool) (js : List Job) (ws : List Nat) (c : List Int), v13 = .int .u32 (pc : Int) ∧ v14 = .int .i64 p ∧ v15 = .bool arg ∧ Sx w0 w L bs s vc vm vv N B nc js ws c mc ∧ pc < L.length ∧
  ((arg = false ∧ 0 ≤ p ∧ p ≤ s.size ∧ bt L (rn s) s.size B n (.exec pc p.toNat) js (vb ws) c = some R) ∨ (arg = true ∧ jobOk L s.size nc ⟨pc, true, p⟩ ∧ bt L (rn s) s.size B n .pop (⟨pc, true, p⟩ :: js) (vb ws) c = some R))
def rel1 (n : Nat) (v13 v14 v15 : Value) (w : World) : Prop := ∃ (pc p : Nat) (js : List Job) (ws : List Nat) (c : List Int), v13 = .int .u32 (pc : Int) ∧ v14 = .int .i64 (p : Int) ∧ v15 = .bool false ∧ Sx w0 w L bs s vc vm vv N B nc js ws c mc ∧ pc < L.length ∧ p ≤ s.size ∧ bt L (rn s) s.size B n (.chk pc p) js (vb ws) c = some R
def relL (n : Nat) (w : World) : Prop := ∃ (js : List Job) (ws : List Nat) (c : List Int), Sx w0 w L bs s vc vm vv N B nc js ws c mc ∧ bt L (rn s) s.size B n .pop js (vb ws) c = some R
/-- What the call leaves behind. -/
def relE (w : World) : Prop := ∃ (js : List Job) (ws : List Nat) (mc' : List Int), Sx w0 w L bs s vc vm vv N B nc js ws R.2.2 mc' ∧ vb ws = R.2.1 ∧ (R.1 = true → mc' = R.2.2) ∧ (R.1 = false → mc' = mc ∧ js = [])
end
/-- What the scope comes to: another round, or the return. -/
def postQ (C T : Act → World → Prop) : Exit → Act → World → Prop
  | .exit n, a, w => n = 1 ∧ C a w
  | .ret, a, w => T a w
  | _, _, _ => False
structure FxT (re bs : Nat) (a : Act) : Prop where
  size : a.tmps.size = 401
  nod : a.defers = []
  h10 : a.tmps.getD 10 undef = .bool true
theorem Sx.top {w0 wr : World} {L : List Bi} {bs : Nat} {s : ByteArray} {vc vm vv : Value} {N B nc : Nat} {j : Job} {js : List Job} {ws : List Nat} {c mc : List Int} (h : Sx w0 wr L bs s vc vm vv N B nc (j :: js) ws c mc) :
    ∃ g cp, wr.cell? ⟨bs, 3, none⟩ = some (.slice (some ⟨g, 0, none⟩) (js.length + 1) cp) ∧ js.length + 1 ≤ cp ∧ wr.cell? ⟨g, js.length * 3, none⟩ = some (.int .u32 (j.pc : Int)) ∧ wr.cell? ⟨g, js.length * 3 + 1, none⟩ = some (.bool j.arg) ∧ wr.cell? ⟨g, js.length * 3 + 2, none⟩ = some (.int .i64 j.pos) ∧
      wr.frozen? ⟨bs, 3, none⟩ = false ∧ Sx w0 (wr.setCell ⟨bs, 3, none⟩ (.slice (some ⟨g, 0, none⟩) js.length cp)) L bs s vc vm vv N B nc js ws c mc ∧ jobOk L s.size nc j := by
  obtain ⟨g, cp, a1, a2, a3, a4, a5, a6, a7⟩ := h.st.top
  exact ⟨g, cp, a1, a2, a3, a4, a5, a6, ⟨a7, below_set h.below h.st.base, h.wlen, h.bits, fun j' hj => h.jobs j' (List.mem_cons_of_mem _ hj), by have := h.jlen; simp only [List.length_cons] at this; omega, h.clen⟩, h.jobs j (List.mem_cons_self ..)⟩
end Go.Proofs.YtekkaknpgdgjjaaGreatDoor.H

/- The backtracker's captured places in memory: reading one, storing one, copying them. -/
namespace Go.Proofs.YtekkaknpgdgjjaaGreatDoor.H
open Go.RowKit Go.Proofs.YtekkaknpgdgjjaaGreatDoorW.PrintWords
set_option linter.unusedVariables false
set_option linter.unusedSimpArgs false
set_option maxRecDepth 100000

section
variable {W : World} {n0 bs E : Nat} {s : ByteArray} {vc vm vv : Value} {js : List Job} {ws : List Nat} {c mc : List Int}
theorem own_some {w : World} {base : Nat} {e : TypeId} {size n : Nat} {v : Value} {xs : List Value} (h : w.ownsRow base e size v n xs) (hn : 0 < n) : ∃ g cap cur, v = .slice (some ⟨g, 0, none⟩) n cap ∧ base ≤ g ∧ w.heap[g]? = some (.cells cur e (0, 0)) ∧ n ≤ cap ∧ cap ≤ maxLen ∧ cur.size = cap * size ∧ cur.toList.take (n * size) = xs := by
  rcases h.2 with ⟨_, h0⟩ | h
  · omega
  · exact h
/-- The row of captured places: its address, a place's cell, what stands behind a store into it. -/
theorem St.caps (h : St W n0 bs E s vc vm vv js ws c mc) (hc : 0 < c.length) : ∃ gc cc, vc = .slice (some ⟨gc, 0, none⟩) c.length cc ∧ n0 ≤ gc ∧
    (∀ i : Int, 0 ≤ i → i < c.length → W.cell? ⟨gc, i.toNat, none⟩ = some (.int .i64 (rdI c i)) ∧ W.frozen? ⟨gc, i.toNat, none⟩ = false) ∧
    (∀ i x : Int, St (W.setCell ⟨gc, i.toNat, none⟩ (.int .i64 x)) n0 bs E s vc vm vv js ws (c.set i.toNat x) mc) := by
  obtain ⟨⟨vj, h1, h2⟩, h3, h4, h5, h6, h7⟩ := h
  obtain ⟨gc, cc, cur, rfl, hg, _⟩ := own_some h5 hc
  refine ⟨gc, cc, rfl, hg, fun i h0 hi => own_at h5 i h0 hi, fun i x => ?_⟩
  obtain ⟨r1, r2⟩ := own_store h5 i x
  have t : ∀ {e : TypeId} {size n : Nat} {v : Value} {xs : List Value}, W.ownsRow n0 e size v n xs → e ≠ 3 → (W.setCell ⟨gc, i.toNat, none⟩ (.int .i64 x)).ownsRow n0 e size v n xs := fun ho hne => own_other ho r2 (own_type_ne ho h5 hne)
  refine ⟨⟨vj, blk_grown h1 r2 (own_ne h5 h1 (by decide)), t h2 (by decide)⟩, h3, t h4 (by decide), ?_, own_other h6 r2 (ne_other h7), h7⟩
  rw [List.length_set]
  exact r1
theorem St.mcaps (h : St W n0 bs E s vc vm vv js ws c mc) (hc : 0 < mc.length) (hcm : c.length = mc.length) : ∃ gm cm cur, vm = .slice (some ⟨gm, 0, none⟩) mc.length cm ∧ n0 ≤ gm ∧ W.heap[gm]? = some (.cells cur 3 (0, 0)) ∧ mc.length ≤ cur.size ∧
    (∀ i : Int, 0 ≤ i → i < mc.length → W.cell? ⟨gm, i.toNat, none⟩ = some (.int .i64 (rdI mc i))) ∧
    St (W.setRow gm (cur.toList.take 0 ++ (nums .i64 c ++ cur.toList.drop (0 + (nums .i64 c).length))).toArray) n0 bs E s vc vm vv js ws c c := by
  obtain ⟨⟨vj, h1, h2⟩, h3, h4, h5, h6, h7⟩ := h
  obtain ⟨gm, cm, cur, rfl, hg, hh, hn, hm, hs, ht⟩ := own_some h6 hc
  refine ⟨gm, cm, cur, rfl, hg, hh, by omega, fun i h0 hi => (own_at h6 i h0 hi).1, ?_⟩
  have r2 : W.grownBy (W.setRow gm (cur.toList.take 0 ++ (nums .i64 c ++ cur.toList.drop (0 + (nums .i64 c).length))).toArray) (some gm) := ⟨rfl, rfl, rfl, by simp [World.setRow], fun k _ hk => setRow_other W gm k _ (fun e => hk (by rw [e]))⟩
  have t : ∀ {e : TypeId} {size n : Nat} {v : Value} {xs : List Value}, W.ownsRow n0 e size v n xs → e ≠ 3 → (W.setRow gm (cur.toList.take 0 ++ (nums .i64 c ++ cur.toList.drop (0 + (nums .i64 c).length))).toArray).ownsRow n0 e size v n xs := fun ho hne => own_other ho r2 (own_type_ne ho h6 hne)
  have hl : (nums .i64 c).length = mc.length := by simp [nums, hcm]
  refine ⟨⟨vj, blk_grown h1 r2 (own_ne h6 h1 (by decide)), t h2 (by decide)⟩, h3, t h4 (by decide), own_other h5 r2 (ne_other (ne_symm h7)), ?_, h7⟩
  refine ⟨by simp [nums], .inr ⟨gm, cm, _, by rw [hcm], hg, setRow_heap W gm _ _ 3 _ hh, by omega, hm, ?_, ?_⟩⟩
  · have hcs : cur.toList.length = cm := by rw [Array.length_toList, hs]; omega
    simp only [List.take_zero, List.nil_append, List.size_toArray, List.length_append, List.length_drop, hcs, hl]
    omega
  · simp only [List.take_zero, List.nil_append]
    rw [List.take_append_of_le_length (by rw [hl]; omega), List.take_of_length_le (by rw [hl]; omega)]
theorem St.drewN (h : St W n0 bs E s vc vm vv js ws c mc) (m : Nat) : St (W.drewN m) n0 bs E s vc vm vv js ws c mc := by
  obtain ⟨⟨vj, h1, h2⟩, h3, h4, h5, h6, h7⟩ := h
  exact ⟨⟨vj, h1, h2⟩, h3, h4, h5, h6, h7⟩
theorem St.drew (h : St W n0 bs E s vc vm vv js ws c mc) : St W.drew n0 bs E s vc vm vv js ws c mc := by
  obtain ⟨⟨vj, h1, h2⟩, h3, h4, h5, h6, h7⟩ := h
  exact ⟨⟨vj, h1, h2⟩, h3, h4, h5, h6, h7⟩
theorem below_drew {B : Nat} {a w : World} (h : Below B a w) : Below B a w.drew := h.trans ⟨rfl, rfl, rfl, Nat.le_refl _, fun _ _ => rfl⟩
theorem below_drewM {B : Nat} {a w : World} (h : Below B a w) (n : Nat) : Below B a (w.drewN n) := h.trans ⟨rfl, rfl, rfl, Nat.le_refl _, fun _ _ => rfl⟩
end
theorem Sx.drewN {w0 wr : World} {L : List Bi} {bs : Nat} {s : ByteArray} {vc vm vv : Value} {N B nc : Nat} {js : List Job} {ws : List Nat} {c mc : List Int} (h : Sx w0 wr L bs s vc vm vv N B nc js ws c mc) (m : Nat) : Sx w0 (wr.drewN m) L bs s vc vm vv N B nc js ws c mc :=
  ⟨h.st.drewN m, below_drewM h.below m, h.wlen, h.bits, h.jobs, h.jlen, h.clen⟩
theorem Sx.drew {w0 wr : World} {L : List Bi} {bs : Nat} {s : ByteArray} {vc vm vv : Value} {N B nc : Nat} {js : List Job} {ws : List Nat} {c mc : List Int} (h : Sx w0 wr L bs s vc vm vv N B nc js ws c mc) : Sx w0 wr.drew L bs s vc vm vv N B nc js ws c mc :=
  ⟨h.st.drew, below_drew h.below, h.wlen, h.bits, h.jobs, h.jlen, h.clen⟩
theorem Sx.push {w0 wr w2 : World} {L : List Bi} {bs : Nat} {s : ByteArray} {vc vm vv : Value} {N B nc : Nat} {j : Job} {js : List Job} {ws : List Nat} {c c' mc : List Int} (h : Sx w0 wr L bs s vc vm vv N B nc js ws c mc) (hs : St w2 w0.heap.size bs s.size s vc vm vv (j :: js) ws c' mc) (hc : c'.length = c.length) (hb : Below w0.heap.size w0 w2) (hj : jobOk L s.size nc j) (hl : js.length < B) : Sx w0 w2 L bs s vc vm vv N B nc (j :: js) ws c' mc := by
  refine ⟨hs, hb, h.wlen, h.bits, fun j' hj' => ?_, by simp only [List.length_cons]; omega, hc.trans h.clen⟩
  rcases List.mem_cons.1 hj' with rfl | hj'
  · exact hj
  · exact h.jobs _ hj'
theorem jobOk_at {L : List Bi} {E nc pc q : Nat} {I : Bi} (h1 : pc < L.length) (h2 : q ≤ E) (hI : L[pc]? = some I) (h0 : I.op = 0) : jobOk L E nc ⟨pc, true, (q : Int)⟩ := ⟨h1, .inl ⟨by dsimp only; omega, by dsimp only; omega, fun _ => ⟨I, hI, h0⟩⟩⟩
theorem jobOk_cap {L : List Bi} {E nc pc : Nat} {I : Bi} (p : Int) (h1 : pc < L.length) (hI : L[pc]? = some I) (h0 : I.op = 2) (h2 : I.arg.toNat < nc) : jobOk L E nc ⟨pc, true, p⟩ := ⟨h1, .inr ⟨rfl, I, hI, h0, h2⟩⟩
end Go.Proofs.YtekkaknpgdgjjaaGreatDoor.H
