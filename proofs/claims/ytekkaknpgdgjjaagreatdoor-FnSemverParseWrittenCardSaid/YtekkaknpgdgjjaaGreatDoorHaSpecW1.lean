/- What the printed functions of the specification come to: digits, identifiers, valid prereleases. -/
import Derived.Test.YtekkaknpgdgjjaaGreatDoorBasicW1
import Derived.Test.YtekkaknpgdgjjaaGreatDoorPGx2W1
import Derived.Test.YtekkaknpgdgjjaaGreatDoorPGx3W1
namespace Go.Proofs.YtekkaknpgdgjjaaGreatDoor.H
open Go.RowKit Go.Proofs.YtekkaknpgdgjjaaGreatDoorW.PrintWords Go.Proofs.YtekkaknpgdgjjaaGreatDoor.PG
set_option linter.unusedVariables false
set_option linter.unusedSimpArgs false
set_option linter.unnecessarySimpa false

def digB (b : UInt8) : Bool := decide (48 ≤ b.toNat) && decide (b.toNat ≤ 57)
def identB (b : UInt8) : Bool := digB b || (decide (65 ≤ b.toNat) && decide (b.toNat ≤ 90)) || (decide (97 ≤ b.toNat) && decide (b.toNat ≤ 122)) || decide (b.toNat = 45)
def digits (l : List UInt8) : Bool := l.all digB && (l != [])
def ident (l : List UInt8) : Bool := l.all identB && (l != [])
def preIdent (l : List UInt8) : Bool := ident l && !(digits l && decide (1 < l.length) && decide (l.head? = some 48))
def validPre (l : List UInt8) : Bool := (parts 46 l).all preIdent
def smallPre (l : List UInt8) : Bool := (parts 46 l).all (fun p => !(digits p && decide (19 < p.length)))
def validMeta (l : List UInt8) : Bool := (parts 46 l).all ident

theorem isDigit_ev (b : UInt8) : spec_isDigit.f (b.toNat : Int) = some (digB b) := by
  unfold spec_isDigit.f digB
  by_cases h : 48 ≤ b.toNat
  · rw [if_pos (by omega)]
    simp [h]
    omega
  · rw [if_neg (by omega)]
    simp [h]
theorem isIdent_ev (b : UInt8) : spec_isIdent.f (b.toNat : Int) = some (identB b) := by
  unfold spec_isIdent.f identB
  rw [isDigit_ev, Option.bind_some]
  cases digB b
  · simp only [Bool.false_eq_true, if_false, Bool.false_or]
    have e : (((b.toNat : Int) == 45) : Bool) = decide (b.toNat = 45) := by
      by_cases h : b.toNat = 45
      · rw [h]; rfl
      · simp [h]; omega
    rw [e]
    have q1 : (65 ≤ (b.toNat : Int)) = (65 ≤ b.toNat) := propext ⟨fun h => by omega, fun h => by omega⟩
    have q2 : ((b.toNat : Int) ≤ 90) = (b.toNat ≤ 90) := propext ⟨fun h => by omega, fun h => by omega⟩
    have q3 : (97 ≤ (b.toNat : Int)) = (97 ≤ b.toNat) := propext ⟨fun h => by omega, fun h => by omega⟩
    have q4 : ((b.toNat : Int) ≤ 122) = (b.toNat ≤ 122) := propext ⟨fun h => by omega, fun h => by omega⟩
    simp only [q1, q2, q3, q4]
    by_cases h1 : 65 ≤ b.toNat <;> by_cases h2 : b.toNat ≤ 90 <;> by_cases h3 : 97 ≤ b.toNat <;> by_cases h4 : b.toNat ≤ 122 <;> simp [h1, h2, h3, h4]
  · simp

theorem toList_nonempty (s : ByteArray) : (s.toList != ([] : List UInt8)) = (s.data.toList != []) := by rw [toList_eq]

theorem digits_ev (s : ByteArray) (hs : s.size ≤ 9223372036854775807) : Ev (fun k => spec_Digits.f k s) (digits s.data.toList) := by
  unfold spec_Digits.f digits
  refine all_loop (L := fun k i => spec_Digits.l0 k s i) ?_ ?_
  · refine Ev.succ ?_
    simp only [spec_Digits.l0]
    refine Ev.neg (by rw [size_eq]; omega) ?_
    rw [toList_nonempty]
    exact Ev.val _
  · intro i h
    have hi : i < s.size := by rw [size_eq]; exact h
    obtain ⟨hh, hb⟩ := bt_data s i hi
    constructor
    · intro hp v hv
      refine Ev.succ ?_
      simp only [spec_Digits.l0]
      refine Ev.pos (by omega) (Ev.pos (by omega) ?_)
      rw [hb, isDigit_ev]
      simp only [Option.bind_some]
      rw [hp, wrap1 hi hs]
      exact Ev.pos rfl hv
    · intro hp
      refine Ev.succ ?_
      simp only [spec_Digits.l0]
      refine Ev.pos (by omega) (Ev.pos (by omega) ?_)
      rw [hb, isDigit_ev]
      simp only [Option.bind_some]
      rw [hp]
      exact Ev.neg (by simp) (Ev.val _)

theorem ident_ev (s : ByteArray) (hs : s.size ≤ 9223372036854775807) : Ev (fun k => spec_ValidIdent.f k s) (ident s.data.toList) := by
  unfold spec_ValidIdent.f ident
  refine all_loop (L := fun k i => spec_ValidIdent.l0 k s i) ?_ ?_
  · refine Ev.succ ?_
    simp only [spec_ValidIdent.l0]
    refine Ev.neg (by rw [size_eq]; omega) ?_
    rw [toList_nonempty]
    exact Ev.val _
  · intro i h
    have hi : i < s.size := by rw [size_eq]; exact h
    obtain ⟨hh, hb⟩ := bt_data s i hi
    constructor
    · intro hp v hv
      refine Ev.succ ?_
      simp only [spec_ValidIdent.l0]
      refine Ev.pos (by omega) (Ev.pos (by omega) ?_)
      rw [hb, isIdent_ev]
      simp only [Option.bind_some]
      rw [hp, wrap1 hi hs]
      exact Ev.pos rfl hv
    · intro hp
      refine Ev.succ ?_
      simp only [spec_ValidIdent.l0]
      refine Ev.pos (by omega) (Ev.pos (by omega) ?_)
      rw [hb, isIdent_ev]
      simp only [Option.bind_some]
      rw [hp]
      exact Ev.neg (by simp) (Ev.val _)

theorem idents_loop (s : ByteArray) (hs : s.size < 8796093022207) : ∀ n (i a : Nat) (out : List ByteArray), s.size - i = n → a ≤ i → i ≤ s.size → out.length ≤ a → (46 : UInt8) ∉ ((s.data.toList.drop a).take (i - a)) →
    Ev (fun k => spec_Identifiers.l0 k s out (a : Int) (i : Int)) (out ++ (parts 46 (s.data.toList.drop a)).map ba) := by
  intro n
  induction n with
  | zero =>
    intro i a out hn hai hi hol hno
    have e : i = s.size := by omega
    subst e
    refine Ev.succ ?_
    simp only [spec_Identifiers.l0]
    refine Ev.neg (by omega) (Ev.pos (by omega) (Ev.pos (by omega) (Ev.pos (by omega) ?_)))
    have hl : ((s.data.toList.drop a).take (s.size - a)) = s.data.toList.drop a := List.take_of_length_le (by rw [List.length_drop, ← size_eq]; exact Nat.le_refl _)
    rw [hl] at hno
    rw [parts_no hno]
    have e2 : s.extract ((a : Int)).toNat s.size = ba (s.data.toList.drop a) := by rw [Int.toNat_natCast]; exact extract_end s a
    rw [e2]
    exact Ev.val _
  | succ n ih =>
    intro i a out hn hai hi hol hno
    have hlt : i < s.size := by omega
    obtain ⟨hh, hb⟩ := bt_data s i hlt
    have hsplit : s.data.toList.drop a = (s.data.toList.drop a).take (i - a) ++ s.data.toList[i] :: s.data.toList.drop (i + 1) := by
      rw [← List.drop_eq_getElem_cons hh]
      have : s.data.toList.drop i = (s.data.toList.drop a).drop (i - a) := by rw [List.drop_drop]; congr 1; omega
      rw [this, List.take_append_drop]
    refine Ev.succ ?_
    simp only [spec_Identifiers.l0]
    refine Ev.pos (by omega) (Ev.pos (by omega) ?_)
    rw [hb]
    refine Ev.ite (fun h46 => ?_) (fun h46 => ?_)
    · refine Ev.pos (by omega) (Ev.pos (by omega) (Ev.pos (by omega) (Ev.pos (by omega) ?_)))
      rw [wrap1 hlt (by omega)]
      have eb : s.data.toList[i] = 46 := by
        apply UInt8.toNat_inj.1
        have : s.data.toList[i].toNat = 46 := by omega
        rw [this]; rfl
      refine (ih (i + 1) (i + 1) (out ++ [s.extract ((a : Int)).toNat ((i : Int)).toNat]) (by omega) (by omega) (by omega) (by simp; omega) (by simp)).eq ?_
      rw [hsplit, eb, parts_at hno]
      simp only [Int.toNat_natCast, extract_ba, List.map_cons, List.append_assoc, List.cons_append, List.nil_append]
    · rw [wrap1 hlt (by omega)]
      refine ih (i + 1) a out (by omega) (by omega) (by omega) hol ?_
      have : (s.data.toList.drop a).take (i + 1 - a) = (s.data.toList.drop a).take (i - a) ++ [s.data.toList[i]] := by
        have e3 : i + 1 - a = (i - a) + 1 := by omega
        rw [e3, List.take_add_one, List.getElem?_drop, show a + (i - a) = i by omega, List.getElem?_eq_getElem hh]
        rfl
      rw [this]
      simp only [List.mem_append, List.mem_singleton, not_or]
      refine ⟨hno, fun e => h46 ?_⟩
      rw [← e]; rfl

theorem idents_ev (s : ByteArray) (hs : s.size < 8796093022207) : Ev (fun k => spec_Identifiers.f k s) ((parts 46 s.data.toList).map ba) := by
  have := idents_loop s hs s.size 0 0 [] (by omega) (by omega) (by omega) (by simp) (by simp)
  simpa [spec_Identifiers.f] using this

theorem parts_size {s p : ByteArray} (h : p ∈ (parts 46 s.data.toList).map ba) : p.size ≤ s.size := by
  obtain ⟨q, hq, rfl⟩ := List.mem_map.1 h
  have := parts_mem_length hq
  rw [ba_size, size_eq]
  exact this

theorem head_ev (s : ByteArray) (h : 1 < s.data.toList.length) : (bt s 0 = 48) ↔ s.data.toList.head? = some 48 := by
  have hs : 0 < s.size := by rw [size_eq]; omega
  obtain ⟨hh, hb⟩ := bt_data s 0 hs
  have hb' : bt s 0 = (s.data.toList[0].toNat : Int) := hb
  rw [hb', List.head?_eq_getElem?, List.getElem?_eq_getElem hh]
  constructor
  · intro h
    have : s.data.toList[0].toNat = 48 := by omega
    have : s.data.toList[0] = 48 := UInt8.toNat_inj.1 (by rw [this]; rfl)
    rw [this]
  · intro h
    rw [Option.some.inj h]
    rfl

theorem validPre_ev (s : ByteArray) (hs : s.size < 8796093022207) : Ev (fun k => spec_ValidPre.f k s) (validPre s.data.toList) := by
  unfold spec_ValidPre.f
  refine Ev.bind (idents_ev s hs) ?_
  have hlen : ((parts 46 s.data.toList).map ba).length ≤ s.size + 1 := by rw [List.length_map, size_eq]; exact parts_length _ _
  generalize hX : (parts 46 s.data.toList).map ba = X at hlen
  have e : validPre s.data.toList = (X.all (fun p => preIdent p.data.toList) && true) := by
    rw [← hX, List.all_map, Bool.and_true]
    unfold validPre
    first | rfl | (congr 1; done) | (congr 1; funext p; simp)
  rw [e]
  refine all_loop (L := fun k i => spec_ValidPre.l0 k X X.length i) ?_ ?_
  · refine Ev.succ ?_
    simp only [spec_ValidPre.l0]
    exact Ev.neg (by omega) (Ev.val _)
  · intro i h
    have hsz : X[i].size ≤ s.size := parts_size (by rw [hX]; exact List.getElem_mem h)
    have hd := digits_ev X[i] (by omega)
    have hi := ident_ev X[i] (by omega)
    have hl : (X[i].size : Int) > 1 ↔ 1 < X[i].data.toList.length := by rw [size_eq]; omega
    constructor
    · intro hp v hv
      simp only [preIdent, Bool.and_eq_true, Bool.not_eq_true', Bool.and_eq_false_iff, decide_eq_false_iff_not] at hp
      obtain ⟨hp1, hp2⟩ := hp
      rw [hp1] at hi
      refine Ev.succ ?_
      simp only [spec_ValidPre.l0]
      refine Ev.pos (by omega) (Ev.pos (by omega) (Ev.pos (by omega) ?_))
      rw [rd_get h, wrap1 h (by omega)]
      refine Ev.bind hi (Ev.pos rfl (Ev.bind hd ?_))
      refine Ev.ite (fun e1 => ?_) (fun e1 => hv)
      refine Ev.ite (fun e2 => ?_) (fun e2 => hv)
      refine Ev.pos (by omega) ?_
      refine Ev.neg ?_ hv
      rw [head_ev _ (hl.1 e2)]
      rcases hp2 with (a | a) | a
      · rw [a] at e1; cases e1
      · exact absurd (hl.1 e2) a
      · exact a
    · intro hp
      refine Ev.succ ?_
      simp only [spec_ValidPre.l0]
      refine Ev.pos (by omega) (Ev.pos (by omega) (Ev.pos (by omega) ?_))
      rw [rd_get h, wrap1 h (by omega)]
      refine Ev.bind hi ?_
      refine Ev.ite (fun e0 => Ev.bind hd ?_) (fun _ => Ev.val _)
      simp only [preIdent, e0, Bool.true_and, Bool.not_eq_false', Bool.and_eq_true, decide_eq_true_eq] at hp
      obtain ⟨⟨p1, p2⟩, p3⟩ := hp
      refine Ev.pos p1 (Ev.pos (hl.2 p2) (Ev.pos (by omega) (Ev.pos ?_ (Ev.val _))))
      exact (head_ev _ p2).2 p3

theorem smallPre_ev (s : ByteArray) (hs : s.size < 8796093022207) : Ev (fun k => spec_SmallPre.f k s) (smallPre s.data.toList) := by
  unfold spec_SmallPre.f
  refine Ev.bind (idents_ev s hs) ?_
  have hlen : ((parts 46 s.data.toList).map ba).length ≤ s.size + 1 := by rw [List.length_map, size_eq]; exact parts_length _ _
  generalize hX : (parts 46 s.data.toList).map ba = X at hlen
  have e : smallPre s.data.toList = (X.all (fun p => !(digits p.data.toList && decide (19 < p.data.toList.length))) && true) := by
    rw [← hX, List.all_map, Bool.and_true]
    unfold smallPre
    first | rfl | (congr 1; done) | (congr 1; funext p; simp)
  rw [e]
  refine all_loop (L := fun k i => spec_SmallPre.l0 k X X.length i) ?_ ?_
  · refine Ev.succ ?_
    simp only [spec_SmallPre.l0]
    exact Ev.neg (by omega) (Ev.val _)
  · intro i h
    have hsz : X[i].size ≤ s.size := parts_size (by rw [hX]; exact List.getElem_mem h)
    have hd := digits_ev X[i] (by omega)
    have hl : (X[i].size : Int) > 19 ↔ 19 < X[i].data.toList.length := by rw [size_eq]; omega
    constructor
    · intro hp v hv
      simp only [Bool.not_eq_true', Bool.and_eq_false_iff, decide_eq_false_iff_not] at hp
      refine Ev.succ ?_
      simp only [spec_SmallPre.l0]
      refine Ev.pos (by omega) (Ev.pos (by omega) (Ev.pos (by omega) ?_))
      rw [rd_get h, wrap1 h (by omega)]
      refine Ev.bind hd ?_
      refine Ev.ite (fun e1 => ?_) (fun e1 => hv)
      refine Ev.neg ?_ hv
      rcases hp with a | a
      · rw [a] at e1; cases e1
      · exact fun e2 => a (hl.1 e2)
    · intro hp
      simp only [Bool.not_eq_false', Bool.and_eq_true, decide_eq_true_eq] at hp
      refine Ev.succ ?_
      simp only [spec_SmallPre.l0]
      refine Ev.pos (by omega) (Ev.pos (by omega) (Ev.pos (by omega) ?_))
      rw [rd_get h, wrap1 h (by omega)]
      refine Ev.bind hd ?_
      exact Ev.pos hp.1 (Ev.pos (hl.2 hp.2) (Ev.val _))

/-- spec.Good: the parts of a version are valid, their numbers short. -/
def good (p m : List UInt8) : Bool := (p == [] || (validPre p && smallPre p)) && (m == [] || validMeta m)
end Go.Proofs.YtekkaknpgdgjjaaGreatDoor.H
