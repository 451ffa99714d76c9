/- Texts of this claim, joined. -/
import Derived.Test.YtekkaknpgdgjjaaGreatDoorWWordsW1
import Derived.Lib.Strings
/- Plain facts on texts as lists of bytes: parting at a byte, cutting, reading a byte. No program in sight. -/
namespace Go.Proofs.YtekkaknpgdgjjaaGreatDoor.H
open Go.RowKit Go.Proofs.YtekkaknpgdgjjaaGreatDoorW.PrintWords
set_option linter.unusedVariables false
set_option linter.unusedSimpArgs false

theorem toList_eq (s : ByteArray) : s.toList = s.data.toList := by
  obtain ⟨⟨l⟩⟩ := s
  simp
theorem size_eq (s : ByteArray) : s.size = s.data.toList.length := by
  obtain ⟨⟨l⟩⟩ := s
  rfl
/-- A text of these bytes. -/
def ba (l : List UInt8) : ByteArray := ⟨l.toArray⟩
@[simp] theorem ba_data (l : List UInt8) : (ba l).data.toList = l := by simp [ba]
@[simp] theorem ba_toList (l : List UInt8) : (ba l).toList = l := by rw [toList_eq, ba_data]
@[simp] theorem ba_size (l : List UInt8) : (ba l).size = l.length := by rw [size_eq, ba_data]
theorem ba_of (s : ByteArray) : ba s.data.toList = s := by
  obtain ⟨⟨l⟩⟩ := s
  rfl
theorem eq_of_data {s t : ByteArray} (h : s.data.toList = t.data.toList) : s = t := by rw [← ba_of s, ← ba_of t, h]
theorem extract_ba (s : ByteArray) (a b : Nat) : s.extract a b = ba ((s.data.toList.drop a).take (b - a)) := Lib.extract_eq s a b
theorem extract_end (s : ByteArray) (a : Nat) : s.extract a s.size = ba (s.data.toList.drop a) := by
  rw [extract_ba, List.take_of_length_le]
  rw [List.length_drop, ← size_eq]
  exact Nat.le_refl _
theorem extract_zero (s : ByteArray) (b : Nat) : s.extract 0 b = ba (s.data.toList.take b) := by
  rw [extract_ba]
  simp

theorem bt_data (s : ByteArray) (i : Nat) (h : i < s.size) : ∃ hh : i < s.data.toList.length, bt s (i : Int) = (s.data.toList[i].toNat : Int) := by
  have hh : i < s.data.toList.length := by rw [← size_eq]; exact h
  refine ⟨hh, ?_⟩
  unfold bt
  rw [dif_pos (by simpa using h)]
  rfl

/-- A list parted at each c: one piece more than there are c's. -/
def parts (c : UInt8) : List UInt8 → List (List UInt8)
  | [] => [[]]
  | x :: r => if x = c then [] :: parts c r else match parts c r with
    | [] => [[x]]
    | h :: t => (x :: h) :: t

def consHead (x : UInt8) : List (List UInt8) → List (List UInt8)
  | [] => [[x]]
  | h :: t => (x :: h) :: t
theorem parts_cons (c x : UInt8) (r : List UInt8) : parts c (x :: r) = if x = c then [] :: parts c r else consHead x (parts c r) := rfl

theorem parts_ne (c : UInt8) (l : List UInt8) : parts c l ≠ [] := by
  cases l with
  | nil => simp [parts]
  | cons x r =>
    unfold parts
    split
    · simp
    · split <;> simp

theorem parts_no {c : UInt8} {l : List UInt8} (h : c ∉ l) : parts c l = [l] := by
  induction l with
  | nil => rfl
  | cons x r ih =>
    simp at h
    rw [parts_cons, if_neg (fun e => h.1 e.symm), ih h.2]
    rfl

theorem parts_at {c : UInt8} {a b : List UInt8} (h : c ∉ a) : parts c (a ++ c :: b) = a :: parts c b := by
  induction a with
  | nil => simp [parts]
  | cons x r ih =>
    simp at h
    simp only [List.cons_append]
    rw [parts_cons, if_neg (fun e => h.1 e.symm), ih h.2]
    rfl

/-- Each list has no c, or is parted at its first. -/
theorem first_cut (c : UInt8) (l : List UInt8) : c ∉ l ∨ ∃ a b, l = a ++ c :: b ∧ c ∉ a := by
  induction l with
  | nil => exact .inl (by simp)
  | cons x r ih =>
    by_cases hx : x = c
    · exact .inr ⟨[], r, by simp [hx], by simp⟩
    · rcases ih with h | ⟨a, b, rfl, ha⟩
      · exact .inl (by simp [h]; exact fun e => hx e.symm)
      · exact .inr ⟨x :: a, b, rfl, by simp [ha]; exact fun e => hx e.symm⟩

theorem parts_length (c : UInt8) (l : List UInt8) : (parts c l).length ≤ l.length + 1 := by
  induction l with
  | nil => simp [parts]
  | cons x r ih =>
    unfold parts
    split
    · simp; omega
    · split
      · simp
      · rename_i h t e
        rw [e] at ih
        simp at ih ⊢
        omega

theorem parts_mem_length {c : UInt8} : ∀ {l : List UInt8} {p : List UInt8}, p ∈ parts c l → p.length ≤ l.length := by
  intro l
  induction l with
  | nil => intro p h; simp [parts] at h; simp [h]
  | cons x r ih =>
    intro p h
    unfold parts at h
    split at h
    · rcases List.mem_cons.1 h with rfl | h
      · simp
      · have := ih h
        simp; omega
    · split at h
      · simp at h; simp [h]
      · rename_i hd t e
        rw [e] at ih
        rcases List.mem_cons.1 h with rfl | h
        · have := ih (p := hd) (by simp)
          simp; omega
        · have := ih (p := p) (by simp [h])
          simp; omega
end Go.Proofs.YtekkaknpgdgjjaaGreatDoor.H

/- What a printed function comes to, given steps enough: rules for 'bind', 'if' and loops. No program in sight. -/
namespace Go.Proofs.YtekkaknpgdgjjaaGreatDoor.H
open Go.RowKit Go.Proofs.YtekkaknpgdgjjaaGreatDoorW.PrintWords
set_option linter.unusedVariables false
set_option linter.unusedSimpArgs false
set_option linter.unnecessarySimpa false

def Ev {α : Type} (g : Nat → Option α) (v : α) : Prop := ∃ N, ∀ k, N ≤ k → g k = some v
theorem Ev.val {α : Type} (v : α) : Ev (fun _ => some v) v := ⟨0, fun _ _ => rfl⟩
theorem Ev.of {α : Type} {a : Option α} {v : α} (h : a = some v) : Ev (fun _ => a) v := ⟨0, fun _ _ => h⟩
theorem Ev.get {α : Type} {g : Nat → Option α} {v : α} (h : Ev g v) : ∃ k, g k = some v := by
  obtain ⟨N, h⟩ := h
  exact ⟨N, h N (Nat.le_refl _)⟩
theorem Ev.bind {α β : Type} {g : Nat → Option α} {h : Nat → α → Option β} {v : α} {r : β} (hg : Ev g v) (hh : Ev (fun k => h k v) r) : Ev (fun k => (g k).bind (h k)) r := by
  obtain ⟨N, hg⟩ := hg
  obtain ⟨M, hh⟩ := hh
  refine ⟨max N M, fun k hk => ?_⟩
  show (g k).bind (h k) = some r
  rw [hg k (by omega), Option.bind_some]
  exact hh k (by omega)
theorem Ev.succ {α : Type} {g : Nat → Option α} {v : α} (h : Ev (fun k => g (k + 1)) v) : Ev g v := by
  obtain ⟨N, h⟩ := h
  refine ⟨N + 1, fun k hk => ?_⟩
  cases k with
  | zero => omega
  | succ k => exact h k (by omega)
theorem Ev.pos {α : Type} {c : Prop} [Decidable c] {a b : Nat → Option α} {v : α} (hc : c) (h : Ev a v) : Ev (fun k => if c then a k else b k) v := by
  obtain ⟨N, h⟩ := h
  exact ⟨N, fun k hk => by show (if c then a k else b k) = some v; rw [if_pos hc]; exact h k hk⟩
theorem Ev.neg {α : Type} {c : Prop} [Decidable c] {a b : Nat → Option α} {v : α} (hc : ¬ c) (h : Ev b v) : Ev (fun k => if c then a k else b k) v := by
  obtain ⟨N, h⟩ := h
  exact ⟨N, fun k hk => by show (if c then a k else b k) = some v; rw [if_neg hc]; exact h k hk⟩
theorem Ev.ite {α : Type} {c : Prop} [Decidable c] {a b : Nat → Option α} {v : α} (ha : c → Ev a v) (hb : ¬ c → Ev b v) : Ev (fun k => if c then a k else b k) v := by
  by_cases hc : c
  · exact Ev.pos hc (ha hc)
  · exact Ev.neg hc (hb hc)
theorem Ev.eq {α : Type} {g : Nat → Option α} {v v' : α} (h : Ev g v) (e : v = v') : Ev g v' := e ▸ h

theorem wrap1 {i n : Nat} (h : i < n) (hn : n ≤ 9223372036854775807) : wrap64 ((i : Int) + 1) = ((i + 1 : Nat) : Int) := by unfold wrap64; omega

/-- A loop over a list that ends at the first element that misses p. -/
theorem all_loop {α : Type} {xs : List α} {L : Nat → Int → Option Bool} {p : α → Bool} {fin : Bool}
    (hend : Ev (fun k => L k (xs.length : Int)) fin)
    (hstep : ∀ i (h : i < xs.length), (p xs[i] = true → ∀ v, Ev (fun k => L k ((i + 1 : Nat) : Int)) v → Ev (fun k => L k (i : Int)) v) ∧ (p xs[i] = false → Ev (fun k => L k (i : Int)) false)) :
    Ev (fun k => L k 0) (xs.all p && fin) := by
  have main : ∀ n i, xs.length - i = n → i ≤ xs.length → Ev (fun k => L k (i : Int)) ((xs.drop i).all p && fin) := by
    intro n
    induction n with
    | zero =>
      intro i hn hi
      have : i = xs.length := by omega
      subst this
      rw [List.drop_length]
      simpa using hend
    | succ n ih =>
      intro i hn hi
      have hlt : i < xs.length := by omega
      have hd := List.drop_eq_getElem_cons hlt
      cases hp : p xs[i] with
      | true =>
        refine ((hstep i hlt).1 hp _ (ih (i + 1) (by omega) (by omega))).eq ?_
        rw [hd, List.all_cons, hp, Bool.true_and]
      | false =>
        refine ((hstep i hlt).2 hp).eq ?_
        rw [hd, List.all_cons, hp, Bool.false_and, Bool.false_and]
  exact main xs.length 0 (by omega) (by omega)

theorem rd_get {xs : List ByteArray} {i : Nat} (h : i < xs.length) : rdOf ByteArray.empty xs (i : Int) = xs[i] := by
  simp [rdOf, List.getD_eq_getElem?_getD, h]
end Go.Proofs.YtekkaknpgdgjjaaGreatDoor.H
