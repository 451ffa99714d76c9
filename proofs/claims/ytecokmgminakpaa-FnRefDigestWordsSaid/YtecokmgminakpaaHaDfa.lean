/- What the engine answers of a plain text over the digests' program: whether the text is an algorithm, a colon and 32 hexadecimal digits at least. -/
import Derived.Test.YtecokmgminakpaaHaDigest
import Derived.Test.YtecokmgminakpaaHaEv
namespace Go.Proofs.Ytecokmgminakpaa.H
open Go.RowKit Go.Proofs.YtecokmgminakpaaW.PrintWords
set_option linter.unusedVariables false
set_option linter.unusedSimpArgs false
set_option maxRecDepth 100000

/-- What an instruction does with a rune, up to the next rune. -/
inductive Res where
  | acc : Res
  | rej : Res
  | go : Nat → Res
deriving DecidableEq
def sim : Nat → Nat → Int → Option Res
  | 0, _, _ => none
  | k + 1, pc, r => match digL[pc]? with
    | none => none
    | some I =>
      if I.op = 4 then some .acc
      else if I.op = 7 then (if mrp I.rs r = -1 then some .rej else some (.go I.out.toNat))
      else if I.op = 8 then (if r = rdI I.rs 0 then some (.go I.out.toNat) else some .rej)
      else if I.op = 0 ∨ I.op = 1 then sim k (opn I r).toNat r
      else if I.op = 5 then some .rej
      else if I.op = 3 then (if I.arg = 4 then none else if I.arg = 8 then (if r < 0 then sim k I.out.toNat r else some .rej) else none)
      else none
theorem sim_ev {s : ByteArray} {i : Nat} : ∀ (k pc : Nat) (res : Res), sim k pc (rn s i) = some res → ∀ (v : Bool),
    (match res with
      | .acc => v = true
      | .rej => v = false
      | .go pc' => if i < s.size then Ev (fun n => run digL s n pc' (i + 1)) v else v = false) → Ev (fun n => run digL s n pc i) v := by
  intro k
  induction k with
  | zero => intro pc res h; simp [sim] at h
  | succ k ih =>
    intro pc res h v hv
    rw [sim] at h
    refine Ev.succ ?_
    simp only [run]
    cases hI : digL[pc]? with
    | none => simp [hI] at h
    | some I =>
      rw [hI] at h
      dsimp only at h ⊢
      refine Ev.ite (fun h4 => ?_) (fun h4 => ?_)
      · rw [if_pos h4] at h
        cases h
        rw [show v = true from hv]
        exact Ev.val _
      rw [if_neg h4] at h
      refine Ev.ite (fun h7 => ?_) (fun h7 => ?_)
      · rw [if_pos h7] at h
        refine Ev.ite (fun hm => ?_) (fun hm => ?_)
        · rw [if_pos hm] at h
          cases h
          rw [show v = false from hv]
          exact Ev.val _
        · rw [if_neg hm] at h
          cases h
          refine Ev.ite (fun hi => ?_) (fun hi => ?_)
          · simpa [hi] using hv
          · rw [show v = false by simpa [hi] using hv]
            exact Ev.val _
      rw [if_neg h7] at h
      refine Ev.ite (fun h8 => ?_) (fun h8 => ?_)
      · rw [if_pos h8] at h
        refine Ev.ite (fun hm => ?_) (fun hm => ?_)
        · rw [if_pos hm] at h
          cases h
          refine Ev.ite (fun hi => ?_) (fun hi => ?_)
          · simpa [hi] using hv
          · rw [show v = false by simpa [hi] using hv]
            exact Ev.val _
        · rw [if_neg hm] at h
          cases h
          rw [show v = false from hv]
          exact Ev.val _
      rw [if_neg h8] at h
      refine Ev.ite (fun h0 => ?_) (fun h0 => ?_)
      · rw [if_pos h0] at h
        exact ih _ _ h _ hv
      rw [if_neg h0] at h
      refine Ev.ite (fun h5 => ?_) (fun h5 => ?_)
      · rw [if_pos h5] at h
        cases h
        rw [show v = false from hv]
        exact Ev.val _
      rw [if_neg h5] at h
      refine Ev.ite (fun h3 => ?_) (fun h3 => ?_)
      · rw [if_pos h3] at h
        refine Ev.ite (fun ha => ?_) (fun ha => ?_)
        · rw [if_pos ha] at h
          cases h
        · rw [if_neg ha] at h
          refine Ev.ite (fun hb => ?_) (fun hb => ?_)
          · rw [if_pos hb] at h
            refine Ev.ite (fun hr => ?_) (fun hr => ?_)
            · rw [if_pos hr] at h
              exact ih _ _ h _ hv
            · rw [if_neg hr] at h
              cases h
              rw [show v = false from hv]
              exact Ev.val _
          · rw [if_neg hb] at h
            cases h
      · rw [if_neg h3] at h
        cases h

/-! Bytes -/
def letB (b : Nat) : Bool := (decide (65 ≤ b) && decide (b ≤ 90)) || (decide (97 ≤ b) && decide (b ≤ 122))
def numB (b : Nat) : Bool := decide (48 ≤ b) && decide (b ≤ 57)
def sepB (b : Nat) : Bool := b == 43 || b == 45 || b == 46 || b == 95
def hexB (b : Nat) : Bool := numB b || (decide (65 ≤ b) && decide (b ≤ 70)) || (decide (97 ≤ b) && decide (b ≤ 102))

inductive St where
  | b : St
  | c : St
  | h : Nat → St
deriving DecidableEq
def dstep : St → Nat → Option St
  | .b, x => if letB x then some .c else none
  | .c, x => if letB x || numB x then some .c else if sepB x then some .b else if x = 58 then some (.h 0) else none
  | .h k, x => if hexB x then some (.h (if k < 32 then k + 1 else 32)) else none
def dacc : St → List UInt8 → Bool
  | st, [] => st == .h 32
  | st, x :: l => match dstep st x.toNat with
    | none => false
    | some st' => dacc st' l
/-- Where the program stands. -/
def at_ : St → Nat → Bool
  | .b, pc => pc == 2 || pc == 6
  | .c, pc => pc == 4 || pc == 8
  | .h k, pc => decide (k ≤ 32) && pc == 11 + k
def okRes (o : Option St) (r : Option Res) : Bool := match o, r with
  | none, some .rej => true
  | some st, some (.go pc) => at_ st pc
  | _, _ => false
def sts : List St := .b :: .c :: (List.range 33).map .h
theorem tab : (sts.all fun st => (List.range 46).all fun pc => !at_ st pc || ((List.range 128).all fun b => okRes (dstep st b) (sim 5 pc (b : Int)))) = true := by kernel_rfl
theorem tabEnd : (sts.all fun st => (List.range 46).all fun pc => !at_ st pc || decide (sim 5 pc (-1) = some (if st = .h 32 then .acc else .rej))) = true := by kernel_rfl
theorem at_lt {st : St} {pc : Nat} (h : at_ st pc = true) : st ∈ sts ∧ pc < 46 := by
  cases st with
  | b => simp [at_] at h; exact ⟨by simp [sts], by omega⟩
  | c => simp [at_] at h; exact ⟨by simp [sts], by omega⟩
  | h k => simp [at_] at h; exact ⟨by simp [sts]; omega, by omega⟩
theorem tab_at {st : St} {pc : Nat} (h : at_ st pc = true) (b : Nat) (hb : b < 128) : okRes (dstep st b) (sim 5 pc (b : Int)) = true := by
  obtain ⟨h1, h2⟩ := at_lt h
  have := List.all_eq_true.1 (List.all_eq_true.1 tab st h1) pc (List.mem_range.2 h2)
  rw [h, Bool.not_true, Bool.false_or] at this
  exact List.all_eq_true.1 this b (List.mem_range.2 hb)
theorem tab_end {st : St} {pc : Nat} (h : at_ st pc = true) : sim 5 pc (-1) = some (if st = .h 32 then .acc else .rej) := by
  obtain ⟨h1, h2⟩ := at_lt h
  have := List.all_eq_true.1 (List.all_eq_true.1 tabEnd st h1) pc (List.mem_range.2 h2)
  rw [h, Bool.not_true, Bool.false_or] at this
  exact of_decide_eq_true this

theorem run_dacc (s : ByteArray) (hp : plainT s) : ∀ (n i : Nat) (st : St) (pc : Nat), s.data.toList.length - i = n → i ≤ s.data.toList.length → at_ st pc = true → Ev (fun k => run digL s k pc i) (dacc st (s.data.toList.drop i)) := by
  intro n
  induction n with
  | zero =>
    intro i st pc hn hi ha
    have hi' : ¬ i < s.size := by rw [size_eq]; omega
    have er : rn s i = -1 := if_neg hi'
    refine sim_ev 5 pc _ (by rw [er]; exact tab_end ha) _ ?_
    rw [List.drop_eq_nil_of_le (by omega)]
    by_cases h : st = .h 32
    · rw [if_pos h]
      simp [dacc, h]
    · rw [if_neg h]
      simp [dacc, h]
  | succ n ih =>
    intro i st pc hn hi ha
    have hlt : i < s.data.toList.length := by omega
    have hi' : i < s.size := by rw [size_eq]; exact hlt
    obtain ⟨hh, hb⟩ := bt_data s i hi'
    have er : rn s i = (s.data.toList[i].toNat : Int) := by
      rw [rn, if_pos hi', hb]
    have hb128 : s.data.toList[i].toNat < 128 := by
      have := hp i hi'
      rw [hb] at this
      omega
    have ht := tab_at ha _ hb128
    rw [List.drop_eq_getElem_cons hlt, dacc]
    cases hd : dstep st s.data.toList[i].toNat with
    | none =>
      rw [hd] at ht
      cases hs : sim 5 pc (s.data.toList[i].toNat : Int) with
      | none => rw [hs] at ht; cases ht
      | some r =>
        rw [hs] at ht
        cases r with
        | acc => cases ht
        | rej => exact sim_ev 5 pc _ (by rw [er]; exact hs) _ rfl
        | go pc' => cases ht
    | some st' =>
      rw [hd] at ht
      cases hs : sim 5 pc (s.data.toList[i].toNat : Int) with
      | none => rw [hs] at ht; cases ht
      | some r =>
        rw [hs] at ht
        cases r with
        | acc => cases ht
        | rej => cases ht
        | go pc' =>
          refine sim_ev 5 pc _ (by rw [er]; exact hs) _ ?_
          simp only [if_pos hi']
          exact ih (i + 1) st' pc' (by omega) (by omega) ht

/-- Whether a plain text is a digest. -/
def dig (l : List UInt8) : Bool := !decide (l.length < 34) && dacc .b l
theorem ans_ev (s : ByteArray) (hp : plainT s) : Ev (fun k => ans s k) (dig s.data.toList) := by
  unfold ans dig
  by_cases h : s.size < 34
  · have h' : s.data.toList.length < 34 := by rw [← size_eq]; exact h
    refine Ev.pos h ((Ev.val false).eq ?_)
    rw [decide_eq_true h']
    rfl
  · have h' : ¬ s.data.toList.length < 34 := by rw [← size_eq]; exact h
    refine Ev.neg h ?_
    rw [decide_eq_false h', Bool.not_false, Bool.true_and]
    refine Ev.succ ?_
    have e1 : digL[1]? = some ⟨3, 2, 4, [65, 90, 97, 122], []⟩ := rfl
    simp only [run, e1]
    refine Ev.neg (by decide) (Ev.neg (by decide) (Ev.neg (by decide) (Ev.neg (by decide) (Ev.neg (by decide) (Ev.pos (by simp) (Ev.pos (by simp) (Ev.pos (by simp) ?_)))))))
    exact run_dacc s hp _ 0 .b 2 rfl (by omega) rfl

/-- impl.RefIsDigest of a plain text. -/
def plainOk (l : List UInt8) : Bool := l.all (fun b => decide (b.toNat < 128)) && decide (l.length ≤ 2147483647)
def impl_RefIsDigest.f (a0 : ByteArray) : Option Bool := if plainOk a0.data.toList = true then some (dig a0.data.toList) else none
theorem impl_RefIsDigest.calls (a0 : ByteArray) (r : Bool) (w : World) (h : impl_RefIsDigest.f a0 = some r) :
    Calls Try.prog 5 #[.string a0] w fun e w' => e = .returned (.bool r) ∧ Below w.heap.size w w' := by
  unfold impl_RefIsDigest.f at h
  split at h
  · rename_i hp
    have hr := Option.some.inj h
    simp only [plainOk, Bool.and_eq_true, List.all_eq_true, decide_eq_true_eq] at hp
    have hpl : plainT a0 := by
      intro j hj
      obtain ⟨hh, hb⟩ := bt_data a0 j hj
      rw [hb]
      have := hp.1 _ (List.getElem_mem hh)
      omega
    obtain ⟨k, hk⟩ := (ans_ev a0 hpl).get
    rw [hr] at hk
    exact isDigest_calls a0 (by rw [size_eq]; exact hp.2) hpl k r hk w
  · cases h
end Go.Proofs.Ytecokmgminakpaa.H
