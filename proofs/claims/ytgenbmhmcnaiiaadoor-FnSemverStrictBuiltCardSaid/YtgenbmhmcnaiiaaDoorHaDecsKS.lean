/- The numerals, and what impl.StrictVersion answers at the four texts that the law builds. -/
import Derived.Test.YtgenbmhmcnaiiaaDoorHaStrictVKS
import Derived.Test.YtgenbmhmcnaiiaaDoorOrdKS
import Derived.Test.YtgenbmhmcnaiiaaDoorHaOnlyPKS
namespace Go.Proofs.YtgenbmhmcnaiiaaDoor.H
open Go.RowKit
set_option linter.unusedVariables false
set_option linter.unusedSimpArgs false
set_option linter.unnecessarySimpa false

theorem digB_of (n : Nat) (h : n < 10) : digB (UInt8.ofNat (48 + n)) = true := by
  rw [digB_iff]
  have : (UInt8.ofNat (48 + n)).toNat = 48 + n := by simp; omega
  omega
theorem dec_all : ∀ (u : Nat), (Lib.decDigits u).all digB = true := by
  intro u
  induction u using Nat.strongRecOn with
  | _ u ih =>
    rw [Lib.decDigits]
    by_cases h : u < 10
    · rw [dif_pos h, List.all_cons, digB_of _ h]; rfl
    · rw [dif_neg h, List.all_append, ih (u / 10) (by omega), List.all_cons, digB_of _ (by omega)]; rfl
theorem pv_snoc : ∀ (l : List UInt8) (d : UInt8), pv (l ++ [d]) = pv l * 10 + (d.toNat - 48)
  | [], d => by simp [pv]
  | c :: r, d => by
    simp only [List.cons_append, pv, pv_snoc r d, List.length_append, List.length_cons, List.length_nil, Nat.pow_succ, Nat.zero_add]
    rw [Nat.add_mul, Nat.mul_assoc]
    simp [Nat.add_assoc]
theorem dec_pv : ∀ (u : Nat), pv (Lib.decDigits u) = u := by
  intro u
  induction u using Nat.strongRecOn with
  | _ u ih =>
    rw [Lib.decDigits]
    by_cases h : u < 10
    · rw [dif_pos h]
      have : (UInt8.ofNat (48 + u)).toNat = 48 + u := by simp; omega
      simp only [pv, this, List.length_nil]
      omega
    · rw [dif_neg h, pv_snoc, ih (u / 10) (by omega)]
      have : (UInt8.ofNat (48 + u % 10)).toNat = 48 + u % 10 := by simp; omega
      omega
theorem dec_ne (u : Nat) : Lib.decDigits u ≠ [] := by
  rw [Lib.decDigits]
  split <;> simp
/-- The first digit of a number above zero is not '0'. -/
theorem dec_head : ∀ (u : Nat), 0 < u → (Lib.decDigits u).head? ≠ some 48 := by
  intro u
  induction u using Nat.strongRecOn with
  | _ u ih =>
    intro hu
    rw [Lib.decDigits]
    by_cases h : u < 10
    · rw [dif_pos h]
      intro e
      have e2 := congrArg UInt8.toNat (Option.some.inj e)
      simp at e2
      omega
    · rw [dif_neg h, List.head?_append]
      have := ih (u / 10) (by omega) (by omega)
      cases e : (Lib.decDigits (u / 10)).head? with
      | none => exact absurd (List.head?_eq_none_iff.1 e) (dec_ne _)
      | some x => rw [e] at this; simpa using this
theorem dec_not (u : Nat) (c : UInt8) (hc : digB c = false) : c ∉ Lib.decDigits u := by
  intro h
  have := List.all_eq_true.1 (dec_all u) c h
  rw [hc] at this
  cases this
theorem dec_num (u : Nat) : numOk (ba (Lib.decDigits u)) := by
  refine ⟨by rw [only_num, ba_data, dec_all], ?_, ?_⟩
  · rw [size_eq, ba_data]; exact List.length_pos_iff.2 (dec_ne u)
  · rintro ⟨h1, h2⟩
    rw [size_eq, ba_data] at h1
    unfold headIs at h2
    rw [ba_data] at h2
    by_cases h0 : 0 < u
    · exact dec_head u h0 (by simpa using h2)
    · obtain rfl : u = 0 := by omega
      rw [Lib.decDigits, dif_pos (by decide)] at h1
      simp at h1
theorem dec_pu (u : Nat) (hu : u ≤ 18446744073709551615) : pu (ba (Lib.decDigits u)) = some u := by
  unfold pu Lib.parseUintB
  rw [ba_data, if_neg (dec_ne u)]
  have e : (2 : Nat) ^ 64 - 1 = 18446744073709551615 := by decide
  rw [e, parseUintM_ok _ _ (dec_all u) (by rw [dec_pv, Nat.zero_mul]; omega), Nat.zero_mul, Nat.zero_add, dec_pv]

theorem three_parts (a b : Nat) (s : ByteArray) (R : List UInt8) (h : s.data.toList = Lib.decDigits a ++ 46 :: (Lib.decDigits b ++ 46 :: R)) : (partsN 46 2 s.data.toList).map ba = [ba (Lib.decDigits a), ba (Lib.decDigits b), ba R] := by
  rw [h, partsN_at (dec_not a 46 (by decide)), partsN_at (dec_not b 46 (by decide))]
  rfl
theorem two_parts (c : UInt8) (A B : List UInt8) (h : c ∉ A) (z : ByteArray) (hz : z.data.toList = A ++ c :: B) : (partsN c 1 z.data.toList).map ba = [ba A, ba B] := by
  rw [hz, partsN_at h]
  rfl

def preOk (p : ByteArray) : Bool := preErr ((parts 46 p.data.toList).map ba) == 0
def metaOk (m : ByteArray) : Bool := ((parts 46 m.data.toList).map ba).all metaPart

theorem sv_bare (a b c : Nat) (ha : a ≤ 18446744073709551615) (hb : b ≤ 18446744073709551615) (hc : c ≤ 18446744073709551615) (s : ByteArray) (hs : s.size ≤ 256)
    (h : s.data.toList = Lib.decDigits a ++ 46 :: (Lib.decDigits b ++ 46 :: Lib.decDigits c)) (w : World) :
    Calls Tryd.prog 45 #[.string s] w fun e w' => e = .returned (svVal true a b c ⟨#[]⟩ ⟨#[]⟩) ∧ Below w.heap.size w w' := by
  have hl := congrArg List.length h
  rw [← size_eq] at hl
  simp only [List.length_append, List.length_cons] at hl
  have z0 : ∀ l : List UInt8, (ba l).size = l.length := fun l => by rw [size_eq, ba_data]
  refine sv45_ok s a b c _ _ w (Lib.hid fun W hW => ?_)
  exact strict_bare s W (by omega) hs _ _ _ (three_parts a b s _ h) (by rw [z0]; omega) (by rw [ba_data]; exact dec_not c 43 (by decide)) (by rw [ba_data]; exact dec_not c 45 (by decide)) a b c (dec_num a) (dec_num b) (dec_num c) (by rw [z0]; omega) (by rw [z0]; omega) (by rw [z0]; omega) (dec_pu a ha) (dec_pu b hb) (dec_pu c hc)

theorem sv_hyphen (a b c : Nat) (ha : a ≤ 18446744073709551615) (hb : b ≤ 18446744073709551615) (hc : c ≤ 18446744073709551615) (s pr : ByteArray) (hs : s.size ≤ 256) (hp : 43 ∉ pr.data.toList)
    (h : s.data.toList = Lib.decDigits a ++ 46 :: (Lib.decDigits b ++ 46 :: (Lib.decDigits c ++ 45 :: pr.data.toList))) (w : World) (t3 : TypeId) (p3 : Value) (t4 : TypeId) (p4 : Value) (hGV : GV w t3 p3 t4 p4) :
    Calls Tryd.prog 45 #[.string s] w fun e w' => e = .returned (svVal (preOk pr) a b c pr ⟨#[]⟩) ∧ Below w.heap.size w w' := by
  have hl := congrArg List.length h
  rw [← size_eq] at hl
  simp only [List.length_append, List.length_cons] at hl
  rw [← size_eq pr] at hl
  have z0 : ∀ l : List UInt8, (ba l).size = l.length := fun l => by rw [size_eq, ba_data]
  have zz : (ba (Lib.decDigits c ++ 45 :: pr.data.toList)).size ≤ 2147483647 := by rw [z0, List.length_append, List.length_cons, ← size_eq]; omega
  have hP : (43 : UInt8) ∉ (ba (Lib.decDigits c ++ 45 :: pr.data.toList)).data.toList := by
    rw [ba_data, List.mem_append, List.mem_cons]
    rintro (h1 | h1 | h1)
    · exact dec_not c 43 (by decide) h1
    · exact absurd h1 (by decide)
    · exact hp h1
  have hH : (45 : UInt8) ∈ (ba (Lib.decDigits c ++ 45 :: pr.data.toList)).data.toList := by rw [ba_data]; simp
  have h2 := two_parts 45 (Lib.decDigits c) pr.data.toList (dec_not c 45 (by decide)) (ba (Lib.decDigits c ++ 45 :: pr.data.toList)) (by rw [ba_data])
  rw [ba_of] at h2
  cases hv : preOk pr with
  | true =>
    unfold preOk at hv
    refine sv45_ok s a b c _ _ w (Lib.hid fun W hW => ?_)
    exact strict_hyphen s W (by omega) hs _ _ _ (three_parts a b s _ h) zz hP _ pr hH h2 (by omega) t3 p3 t4 p4 (hGV.below hW) (by simpa using hv) a b c (dec_num a) (dec_num b) (dec_num c) (by rw [z0]; omega) (by rw [z0]; omega) (by rw [z0]; omega) (dec_pu a ha) (dec_pu b hb) (dec_pu c hc)
  | false =>
    unfold preOk at hv
    refine sv45_bad s a b c _ _ w (Lib.hid fun W hW => ?_)
    exact strict_pre0 s W (by omega) hs _ _ _ (three_parts a b s _ h) zz hP _ pr hH h2 (by omega) t3 p3 t4 p4 (hGV.below hW) (by simpa using hv)

theorem sv_plus (a b c : Nat) (ha : a ≤ 18446744073709551615) (hb : b ≤ 18446744073709551615) (hc : c ≤ 18446744073709551615) (s mt : ByteArray) (hs : s.size ≤ 256)
    (h : s.data.toList = Lib.decDigits a ++ 46 :: (Lib.decDigits b ++ 46 :: (Lib.decDigits c ++ 43 :: mt.data.toList))) (w : World) (t5 : TypeId) (p5 : Value) (hG5 : G5 w t5 p5) :
    Calls Tryd.prog 45 #[.string s] w fun e w' => e = .returned (svVal (metaOk mt) a b c ⟨#[]⟩ mt) ∧ Below w.heap.size w w' := by
  have hl := congrArg List.length h
  rw [← size_eq] at hl
  simp only [List.length_append, List.length_cons] at hl
  rw [← size_eq mt] at hl
  have z0 : ∀ l : List UInt8, (ba l).size = l.length := fun l => by rw [size_eq, ba_data]
  have zz : (ba (Lib.decDigits c ++ 43 :: mt.data.toList)).size ≤ 2147483647 := by rw [z0, List.length_append, List.length_cons, ← size_eq]; omega
  have hP : (43 : UInt8) ∈ (ba (Lib.decDigits c ++ 43 :: mt.data.toList)).data.toList := by rw [ba_data]; simp
  have h2 := two_parts 43 (Lib.decDigits c) mt.data.toList (dec_not c 43 (by decide)) (ba (Lib.decDigits c ++ 43 :: mt.data.toList)) (by rw [ba_data])
  rw [ba_of] at h2
  cases hv : metaOk mt with
  | true =>
    unfold metaOk at hv
    refine sv45_ok s a b c _ _ w (Lib.hid fun W hW => ?_)
    exact strict_plus s W (by omega) hs _ _ _ (three_parts a b s _ h) zz _ mt hP h2 (by rw [z0]; omega) (by omega) t5 p5 (hG5.below hW) hv (by rw [ba_data]; exact dec_not c 45 (by decide)) a b c (dec_num a) (dec_num b) (dec_num c) (by rw [z0]; omega) (by rw [z0]; omega) (by rw [z0]; omega) (dec_pu a ha) (dec_pu b hb) (dec_pu c hc)
  | false =>
    unfold metaOk at hv
    refine sv45_bad s a b c _ _ w (Lib.hid fun W hW => ?_)
    exact strict_meta s W (by omega) hs _ _ _ (three_parts a b s _ h) zz _ mt hP h2 (by rw [z0]; omega) (by omega) t5 p5 (hG5.below hW) hv

theorem sv_full (a b c : Nat) (ha : a ≤ 18446744073709551615) (hb : b ≤ 18446744073709551615) (hc : c ≤ 18446744073709551615) (s pr mt : ByteArray) (hs : s.size ≤ 256) (hp : 43 ∉ pr.data.toList)
    (h : s.data.toList = Lib.decDigits a ++ 46 :: (Lib.decDigits b ++ 46 :: ((Lib.decDigits c ++ 45 :: pr.data.toList) ++ 43 :: mt.data.toList))) (w : World) (t3 : TypeId) (p3 : Value) (t4 : TypeId) (p4 : Value) (hGV : GV w t3 p3 t4 p4) (t5 : TypeId) (p5 : Value) (hG5 : G5 w t5 p5) :
    Calls Tryd.prog 45 #[.string s] w fun e w' => e = .returned (svVal (preOk pr && metaOk mt) a b c pr mt) ∧ Below w.heap.size w w' := by
  have hl := congrArg List.length h
  rw [← size_eq] at hl
  simp only [List.length_append, List.length_cons] at hl
  rw [← size_eq mt, ← size_eq pr] at hl
  have z0 : ∀ l : List UInt8, (ba l).size = l.length := fun l => by rw [size_eq, ba_data]
  have zz : (ba ((Lib.decDigits c ++ 45 :: pr.data.toList) ++ 43 :: mt.data.toList)).size ≤ 2147483647 := by rw [z0, List.length_append, List.length_append, List.length_cons, List.length_cons, ← size_eq, ← size_eq]; omega
  have hP : (43 : UInt8) ∈ (ba ((Lib.decDigits c ++ 45 :: pr.data.toList) ++ 43 :: mt.data.toList)).data.toList := by rw [ba_data]; simp
  have hn : (43 : UInt8) ∉ Lib.decDigits c ++ 45 :: pr.data.toList := by
    rw [List.mem_append, List.mem_cons]
    rintro (h1 | h1 | h1)
    · exact dec_not c 43 (by decide) h1
    · exact absurd h1 (by decide)
    · exact hp h1
  have h1 := two_parts 43 (Lib.decDigits c ++ 45 :: pr.data.toList) mt.data.toList hn (ba ((Lib.decDigits c ++ 45 :: pr.data.toList) ++ 43 :: mt.data.toList)) (by rw [ba_data])
  rw [ba_of] at h1
  have zq : (ba (Lib.decDigits c ++ 45 :: pr.data.toList)).size ≤ 2147483647 := by rw [z0, List.length_append, List.length_cons, ← size_eq]; omega
  have hH : (45 : UInt8) ∈ (ba (Lib.decDigits c ++ 45 :: pr.data.toList)).data.toList := by rw [ba_data]; simp
  have h2 := two_parts 45 (Lib.decDigits c) pr.data.toList (dec_not c 45 (by decide)) (ba (Lib.decDigits c ++ 45 :: pr.data.toList)) (by rw [ba_data])
  rw [ba_of] at h2
  cases hm : metaOk mt with
  | false =>
    unfold metaOk at hm
    rw [Bool.and_false]
    refine sv45_bad s a b c _ _ w (Lib.hid fun W hW => ?_)
    exact strict_meta s W (by omega) hs _ _ _ (three_parts a b s _ h) zz _ mt hP h1 zq (by omega) t5 p5 (hG5.below hW) hm
  | true =>
    unfold metaOk at hm
    rw [Bool.and_true]
    cases hv : preOk pr with
    | true =>
      unfold preOk at hv
      refine sv45_ok s a b c _ _ w (Lib.hid fun W hW => ?_)
      exact strict_full s W (by omega) hs _ _ _ (three_parts a b s _ h) zz _ mt hP h1 zq (by omega) t5 p5 (hG5.below hW) hm _ pr hH h2 (by omega) t3 p3 t4 p4 (hGV.below hW) (by simpa using hv) a b c (dec_num a) (dec_num b) (dec_num c) (by rw [z0]; omega) (by rw [z0]; omega) (by rw [z0]; omega) (dec_pu a ha) (dec_pu b hb) (dec_pu c hc)
    | false =>
      unfold preOk at hv
      refine sv45_bad s a b c _ _ w (Lib.hid fun W hW => ?_)
      exact strict_pre1 s W (by omega) hs _ _ _ (three_parts a b s _ h) zz _ mt hP h1 zq (by omega) t5 p5 (hG5.below hW) hm _ pr hH h2 (by omega) t3 p3 t4 p4 (hGV.below hW) (by simpa using hv)
end Go.Proofs.YtgenbmhmcnaiiaaDoor.H
