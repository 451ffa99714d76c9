/- The comparison of versions (Compare and the thin functions over it) as plain functions. -/
import Derived.Test.YtgenbmhmcnaiiaaDoorHaSplitKE
import Derived.Test.YtgenbmhmcnaiiaaDoorHaPartKE
namespace Go.Proofs.YtgenbmhmcnaiiaaDoor.H
open Go.RowKit Go.Proofs.YtgenbmhmcnaiiaaDoorW.PrintWords
set_option linter.unusedVariables false
set_option linter.unusedSimpArgs false

/-- comparePrePart with the numbers that the identifiers spell. -/
def pcmp (s o : ByteArray) : Int := partCmp s o (pu o) (pu s)

/-- The identifiers from the left: the first that differ; a missing one is empty. -/
def preCmpL : List ByteArray → List ByteArray → Int
  | [], [] => 0
  | x :: xs, [] => if pcmp x ⟨#[]⟩ = 0 then preCmpL xs [] else pcmp x ⟨#[]⟩
  | [], y :: ys => if pcmp ⟨#[]⟩ y = 0 then preCmpL [] ys else pcmp ⟨#[]⟩ y
  | x :: xs, y :: ys => if pcmp x y = 0 then preCmpL xs ys else pcmp x y

/-- comparePrerelease. -/
def preCmp (s o : ByteArray) : Int := preCmpL ((parts 46 s.data.toList).map ba) ((parts 46 o.data.toList).map ba)

theorem drop_nil {l : List ByteArray} {k : Nat} (h : ¬ k < l.length) : l.drop k = [] := List.drop_eq_nil_of_le (by omega)
theorem drop_nil1 {l : List ByteArray} {k : Nat} (h : ¬ k < l.length) : l.drop (k + 1) = [] := List.drop_eq_nil_of_le (by omega)
theorem preCmpL_both {xs ys : List ByteArray} {k : Nat} (hx : k < xs.length) (hy : k < ys.length) : preCmpL (xs.drop k) (ys.drop k) = if pcmp xs[k] ys[k] = 0 then preCmpL (xs.drop (k + 1)) (ys.drop (k + 1)) else pcmp xs[k] ys[k] := by
  rw [List.drop_eq_getElem_cons hx, List.drop_eq_getElem_cons hy, preCmpL]
theorem preCmpL_left {xs ys : List ByteArray} {k : Nat} (hx : k < xs.length) (hy : ¬ k < ys.length) : preCmpL (xs.drop k) (ys.drop k) = if pcmp xs[k] ⟨#[]⟩ = 0 then preCmpL (xs.drop (k + 1)) (ys.drop (k + 1)) else pcmp xs[k] ⟨#[]⟩ := by
  rw [List.drop_eq_getElem_cons hx, drop_nil hy, drop_nil1 hy, preCmpL]
theorem preCmpL_right {xs ys : List ByteArray} {k : Nat} (hx : ¬ k < xs.length) (hy : k < ys.length) : preCmpL (xs.drop k) (ys.drop k) = if pcmp ⟨#[]⟩ ys[k] = 0 then preCmpL (xs.drop (k + 1)) (ys.drop (k + 1)) else pcmp ⟨#[]⟩ ys[k] := by
  rw [List.drop_eq_getElem_cons hy, drop_nil hx, drop_nil1 hx, preCmpL]
theorem preCmpL_none {xs ys : List ByteArray} {k : Nat} (hx : ¬ k < xs.length) (hy : ¬ k < ys.length) : preCmpL (xs.drop k) (ys.drop k) = 0 := by
  rw [drop_nil hx, drop_nil hy, preCmpL]

theorem part_calls' (s o : ByteArray) (d : Int) (hd : Hid (pcmp s o = d)) (hs : s.size ≤ 2147483647) (ho : o.size ≤ 2147483647) (w : World) (hG : GE w) :
    Calls Tryd.prog 125 #[.string s, .string o] w fun e w' => e = .returned (.int .i64 d) ∧ Below w.heap.size w w' := by
  have h := part_calls s o hs ho w hG
  have e : partCmp s o (pu o) (pu s) = d := hd.out
  rw [e] at h
  exact h

theorem split_dot (s : ByteArray) (hs : s.size ≤ 2147483647) (w : World) :
    Calls Tryd.prog 148 #[.string s, .string ⟨#[46]⟩] w fun e w' => (∃ A m, e = .returned (.slice A ((parts 46 s.data.toList).map ba).length m) ∧ ((parts 46 s.data.toList).map ba).length ≤ m ∧ RdS w' A ((parts 46 s.data.toList).map ba)) ∧ Below w.heap.size w w' :=
  split_any 46 s hs w

set_option maxRecDepth 100000 in
set_option maxHeartbeats 2000000 in
theorem pre_calls (s o : ByteArray) (hs : s.size ≤ 2147483647) (ho : o.size ≤ 2147483647) (w : World) (hG : GE w) :
    Calls Tryd.prog 131 #[.string s, .string o] w fun e w' => e = .returned (.int .i64 (preCmp s o)) ∧ Below w.heap.size w w' := by
  have hls : ∀ x ∈ (parts 46 s.data.toList).map ba, x.size ≤ 2147483647 := by
    intro x hx
    obtain ⟨p, hp, rfl⟩ := List.mem_map.1 hx
    have := parts_mem_length hp
    rw [← size_eq] at this
    simp; omega
  have hlo : ∀ x ∈ (parts 46 o.data.toList).map ba, x.size ≤ 2147483647 := by
    intro x hx
    obtain ⟨p, hp, rfl⟩ := List.mem_map.1 hx
    have := parts_mem_length hp
    rw [← size_eq] at this
    simp; omega
  have hns : ((parts 46 s.data.toList).map ba).length ≤ 2147483648 := by
    have := parts_length 46 s.data.toList
    rw [← size_eq] at this
    simp; omega
  have hno : ((parts 46 o.data.toList).map ba).length ≤ 2147483648 := by
    have := parts_length 46 o.data.toList
    rw [← size_eq] at this
    simp; omega
  obtain ⟨R, hR⟩ : ∃ R, preCmp s o = R := ⟨_, rfl⟩
  rw [hR]
  unfold preCmp at hR
  have c1 := fun W => split_dot s hs W
  have c2 := fun W => split_dot o ho W
  generalize (parts 46 s.data.toList).map ba = xs at *
  generalize (parts 46 o.data.toList).map ba = ys at *
  have HP := Lib.hid hR
  have C1 := Lib.hid c1
  have C2 := Lib.hid c2
  have HLS := Lib.hid hls
  have HLO := Lib.hid hlo
  clear c1 c2 hls hlo hs ho hR
  go_enter Tryd.func131, Tryd.ntmps131
  go_wp2_with fail
  refine (C1.out _).mono ?_
  rintro e w1 ⟨⟨A, m, rfl, hm, hr⟩, hb⟩
  go_wp2_with fail
  refine (C2.out _).mono ?_
  rintro e w2 ⟨⟨A2, m2, rfl, hm2, hr2⟩, hb2⟩
  have hbb := chain hb hb2
  have HR1 := Lib.hid (hr.below hb2)
  have HR2 := Lib.hid hr2
  clear hr hr2 hb hb2 C1 C2
  have hM : ∃ M, (if xs.length < ys.length then ys.length else xs.length) = M := ⟨_, rfl⟩
  by_cases hl : xs.length < ys.length
  all_goals
    go_wp2_with fail
    go_loopw [10] (fun i wr => ∃ k : Nat, i = .int .i64 k ∧ (k ≤ xs.length ∨ k ≤ ys.length) ∧ Hid (preCmpL (xs.drop k) (ys.drop k) = R) ∧ Below w.heap.size w wr ∧ Hid (RdS wr A xs) ∧ Hid (RdS wr A2 ys)) (fun i _ => xs.length + ys.length - (intOf i).toNat)
    case atStart => exact ⟨0, rfl, .inl (Nat.zero_le _), HP, hbb, HR1, HR2⟩
    case round =>
      obtain ⟨k, rfl, hk, HQ, hbk, HX, HY⟩ := hrel
      clear HR1 HR2 HP hbb
      have HGk := Lib.hid (hG.below hbk)
      by_cases hx : k < xs.length <;> by_cases hy : k < ys.length
      · obtain ⟨ad, rfl, hc1⟩ := HX.out k hx
        obtain ⟨ad2, rfl, hc2⟩ := HY.out k hy
        have hsx : xs[k].size ≤ 2147483647 := HLS.out _ (List.getElem_mem hx)
        have hsy : ys[k].size ≤ 2147483647 := HLO.out _ (List.getElem_mem hy)
        have HS := Lib.hid (preCmpL_both hx hy)
        obtain ⟨d, hd⟩ : ∃ d, Hid (pcmp xs[k] ys[k] = d) := ⟨_, Lib.hid rfl⟩
        by_cases hz : d = 0
        · have hz1 : (d != 0) = false := by simp [hz]
          have HQ2 : Hid (preCmpL (xs.drop (k + 1)) (ys.drop (k + 1)) = R) := Lib.hid (by rw [← HQ.out, HS.out, if_pos (hd.out.trans hz)])
          clear hz
          go_wp2_with fail
          refine (part_calls' _ _ d hd hsx hsy _ HGk.out).mono ?_
          rintro e w3 ⟨rfl, hb3⟩
          have HX3 := Lib.hid (HX.out.below hb3)
          have HY3 := Lib.hid (HY.out.below hb3)
          go_wp2
          go_roundw
          case rel => exact ⟨k + 1, by go_num, by omega, HQ2, chain hbk hb3, HX3, HY3⟩
          case measure => simp [intOf]; omega
        · have hz1 : (d != 0) = true := by simp [hz]
          have HQ2 : Hid (R = d) := Lib.hid (by rw [← HQ.out, HS.out, if_neg (fun e => hz (hd.out.symm.trans e)), hd.out])
          clear hz
          go_wp2_with fail
          refine (part_calls' _ _ d hd hsx hsy _ HGk.out).mono ?_
          rintro e w3 ⟨rfl, hb3⟩
          go_wp2
          go_ret
          exact ⟨ret_int HQ2.out.symm, chain hbk hb3⟩
      · first
        | (exfalso; omega)
        | (obtain ⟨ad, rfl, hc1⟩ := HX.out k hx
           have hsx : xs[k].size ≤ 2147483647 := HLS.out _ (List.getElem_mem hx)
           have HS := Lib.hid (preCmpL_left hx hy)
           obtain ⟨d, hd⟩ : ∃ d, Hid (pcmp xs[k] ⟨#[]⟩ = d) := ⟨_, Lib.hid rfl⟩
           by_cases hz : d = 0
           · have hz1 : (d != 0) = false := by simp [hz]
             have HQ2 : Hid (preCmpL (xs.drop (k + 1)) (ys.drop (k + 1)) = R) := Lib.hid (by rw [← HQ.out, HS.out, if_pos (hd.out.trans hz)])
             clear hz
             go_wp2_with fail
             all_goals
               refine (part_calls' _ _ d hd hsx (by decide) _ HGk.out).mono ?_
               rintro e w3 ⟨rfl, hb3⟩
               have HX3 := Lib.hid (HX.out.below hb3)
               have HY3 := Lib.hid (HY.out.below hb3)
               go_wp2
               go_roundw
               case rel => exact ⟨k + 1, by go_num, by omega, HQ2, chain hbk hb3, HX3, HY3⟩
               case measure => simp [intOf]; omega
           · have hz1 : (d != 0) = true := by simp [hz]
             have HQ2 : Hid (R = d) := Lib.hid (by rw [← HQ.out, HS.out, if_neg (fun e => hz (hd.out.symm.trans e)), hd.out])
             clear hz
             go_wp2_with fail
             all_goals
               refine (part_calls' _ _ d hd hsx (by decide) _ HGk.out).mono ?_
               rintro e w3 ⟨rfl, hb3⟩
               go_wp2
               go_ret
               exact ⟨ret_int HQ2.out.symm, chain hbk hb3⟩)
      · first
        | (exfalso; omega)
        | (obtain ⟨ad2, rfl, hc2⟩ := HY.out k hy
           have hsy : ys[k].size ≤ 2147483647 := HLO.out _ (List.getElem_mem hy)
           have HS := Lib.hid (preCmpL_right hx hy)
           obtain ⟨d, hd⟩ : ∃ d, Hid (pcmp ⟨#[]⟩ ys[k] = d) := ⟨_, Lib.hid rfl⟩
           by_cases hz : d = 0
           · have hz1 : (d != 0) = false := by simp [hz]
             have HQ2 : Hid (preCmpL (xs.drop (k + 1)) (ys.drop (k + 1)) = R) := Lib.hid (by rw [← HQ.out, HS.out, if_pos (hd.out.trans hz)])
             clear hz
             go_wp2_with fail
             all_goals
               refine (part_calls' _ _ d hd (by decide) hsy _ HGk.out).mono ?_
               rintro e w3 ⟨rfl, hb3⟩
               have HX3 := Lib.hid (HX.out.below hb3)
               have HY3 := Lib.hid (HY.out.below hb3)
               go_wp2
               go_roundw
               case rel => exact ⟨k + 1, by go_num, by omega, HQ2, chain hbk hb3, HX3, HY3⟩
               case measure => simp [intOf]; omega
           · have hz1 : (d != 0) = true := by simp [hz]
             have HQ2 : Hid (R = d) := Lib.hid (by rw [← HQ.out, HS.out, if_neg (fun e => hz (hd.out.symm.trans e)), hd.out])
             clear hz
             go_wp2_with fail
             all_goals
               refine (part_calls' _ _ d hd (by decide) hsy _ HGk.out).mono ?_
               rintro e w3 ⟨rfl, hb3⟩
               go_wp2
               go_ret
               exact ⟨ret_int HQ2.out.symm, chain hbk hb3⟩)
      · have HQ2 : Hid (R = 0) := Lib.hid (by rw [← HQ.out, preCmpL_none hx hy])
        go_wp2
        go_ret
        exact ⟨ret_int HQ2.out.symm, hbk⟩
end Go.Proofs.YtgenbmhmcnaiiaaDoor.H
