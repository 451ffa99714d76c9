/- validateMetadata, and the checks of a prerelease and of metadata as thin functions. -/
import Derived.Test.YtgenbmhmcnaiiaaDoorHaValidKS
namespace Go.Proofs.YtgenbmhmcnaiiaaDoor.H
open Go.RowKit Go.Proofs.YtgenbmhmcnaiiaaDoorW.PrintWords
set_option linter.unusedVariables false
set_option linter.unusedSimpArgs false

def metaPart (x : ByteArray) : Bool := (x.data.toList != []) && only x allowedB
def metaVal (b : Bool) (v5 : Value) : Value := if b = true then .nilIface else v5
theorem meta_step {xs : List ByteArray} {k : Nat} (h : k < xs.length) : (xs.drop k).all metaPart = (metaPart xs[k] && (xs.drop (k + 1)).all metaPart) := by
  rw [List.drop_eq_getElem_cons h, List.all_cons]
structure G5 (w : World) (t5 : TypeId) (p5 : Value) : Prop where
  cell : w.cell? ⟨5, 0, none⟩ = some (.iface t5 p5)
theorem G5.below {w w' : World} {t5 : TypeId} {p5 : Value} (h : G5 w t5 p5) (hb : Below w.heap.size w w') : G5 w' t5 p5 :=
  ⟨(hb.cell (World.block_lt_of_cell? w _ h.cell)).trans h.cell⟩

set_option maxRecDepth 100000 in
set_option maxHeartbeats 4000000 in
theorem metadata_calls (s : ByteArray) (hs : s.size ≤ 2147483647) (t5 : TypeId) (p5 : Value) (w : World) (hG : G5 w t5 p5) :
    Calls Tryd.prog 136 #[.string s] w fun e w' => e = .returned (metaVal (((parts 46 s.data.toList).map ba).all metaPart) (.iface t5 p5)) ∧ Below w.heap.size w w' := by
  have hu9 := Tryd.underlying9
  have hns : ((parts 46 s.data.toList).map ba).length ≤ 2147483648 := by
    have := parts_length 46 s.data.toList
    rw [← size_eq] at this
    simp; omega
  obtain ⟨R, hR⟩ : ∃ R, metaVal (((parts 46 s.data.toList).map ba).all metaPart) (.iface t5 p5) = R := ⟨_, rfl⟩
  rw [hR]
  have C1 := Lib.hid (split_any 46 s hs w)
  generalize (parts 46 s.data.toList).map ba = xs at *
  have HP := Lib.hid hR
  clear hs hR
  go_enter Tryd.func136, Tryd.ntmps136
  go_wp2_with (go_at_call 148; refine C1.out.mono ?_; rintro e w1 ⟨⟨A, m, rfl, hm, hr⟩, hbb⟩; have HR1 := Lib.hid hr)
  clear hr C1
  go_loopw [10] (fun i wr => ∃ k : Nat, i = .int .i64 k ∧ k ≤ xs.length ∧ Hid (metaVal ((xs.drop k).all metaPart) (.iface t5 p5) = R) ∧ Below w.heap.size w wr ∧ Hid (RdS wr A xs)) (fun i _ => xs.length - (intOf i).toNat)
  case atStart => exact ⟨0, rfl, Nat.zero_le _, HP, hbb, HR1⟩
  case round =>
    obtain ⟨k, rfl, hk, HQ, hbk, HX⟩ := hrel
    clear HR1 HP hbb
    obtain ⟨gm⟩ := hG.below hbk
    by_cases hx : k < xs.length
    · obtain ⟨ad, rfl, hc1⟩ := HX.out k hx
      have HS := Lib.hid (meta_step hx)
      obtain ⟨x, hxk⟩ : ∃ x, xs[k] = x := ⟨_, rfl⟩
      rw [hxk] at hc1 HS
      have Q5 : metaPart x = false → Hid (R = .iface t5 p5) := fun h => Lib.hid (by rw [← HQ.out, HS.out, h]; rfl)
      have Q0 : metaPart x = true → Hid (metaVal ((xs.drop (k + 1)).all metaPart) (.iface t5 p5) = R) := fun h => Lib.hid (by rw [← HQ.out, HS.out, h, Bool.true_and])
      clear HQ HS
      rcases hxl : x.data.toList with _ | ⟨c0, r0⟩
      · obtain rfl : x = ⟨#[]⟩ := eq_of_data (by rw [hxl])
        have HR5 := Q5 rfl
        clear Q5 Q0
        go_wp2
        go_ret
        exact ⟨ret_val HR5.out.symm, hbk⟩
      · have hn1 : ¬ x.data.toList = [] := by rw [hxl]; simp
        have hn2 : ¬ x.toList = [] := by rw [toList_eq]; exact hn1
        have hn3 : ¬ x.data = #[] := fun h => hn1 (by rw [h])
        have hn4 : x.toList.isEmpty = false := by rw [toList_eq, hxl]; rfl
        have hbn : (x.data.toList != []) = true := by rw [hxl]; rfl
        obtain ⟨o2, ho2⟩ : ∃ b, only x allowedB = b := ⟨_, rfl⟩
        have O2 := Lib.hid (fun W => only_calls x allowedB W)
        rw [ho2] at O2
        unfold metaPart at Q5 Q0
        rw [hbn, ho2, Bool.true_and] at Q5 Q0
        cases o2 with
        | true =>
          have HR0 := Q0 rfl
          clear Q5 Q0
          go_wp2_with (go_at_call 137; refine (O2.out _).mono ?_; rintro e w3 ⟨rfl, hb3⟩)
          go_roundw
          case rel => exact ⟨k + 1, by go_num, by omega, HR0, chain hbk hb3, Lib.hid (HX.out.below hb3)⟩
          case measure => simp [intOf]; omega
        | false =>
          have HR5 := Q5 rfl
          clear Q5 Q0
          go_wp2_with (go_at_call 137; refine (O2.out _).mono ?_; rintro e w3 ⟨rfl, hb3⟩; obtain ⟨gm⟩ := G5.below ⟨gm⟩ hb3)
          go_ret
          exact ⟨ret_val HR5.out.symm, chain hbk hb3⟩
    · have e : (xs.drop k).all metaPart = true := by rw [List.drop_eq_nil_of_le (by omega)]; rfl
      rw [e] at HQ
      have HR0 := Lib.hid (show R = .nilIface by rw [← HQ.out]; rfl)
      clear HQ
      go_wp2
      go_ret
      exact ⟨ret_val HR0.out.symm, hbk⟩

set_option maxRecDepth 100000 in
set_option maxHeartbeats 4000000 in
theorem zzmeta_calls (s : ByteArray) (hs : s.size ≤ 2147483647) (t5 : TypeId) (p5 : Value) (w : World) (hG : G5 w t5 p5) :
    Calls Tryd.prog 96 #[.string s] w fun e w' => e = .returned (metaVal (((parts 46 s.data.toList).map ba).all metaPart) (.iface t5 p5)) ∧ Below w.heap.size w w' := by
  have F := Lib.hid (metadata_calls s hs t5 p5 w hG)
  clear hG
  generalize metaVal (((parts 46 s.data.toList).map ba).all metaPart) (.iface t5 p5) = r at F ⊢
  go_enter Tryd.func96, Tryd.ntmps96
  go_wp2_with (go_at_call 136; refine F.out.mono ?_; rintro e wx ⟨rfl, hb⟩)
  go_ret
  exact ⟨rfl, hb⟩

set_option maxRecDepth 100000 in
set_option maxHeartbeats 4000000 in
theorem vmeta_calls (s : ByteArray) (hs : s.size ≤ 2147483647) (t5 : TypeId) (p5 : Value) (w : World) (hG : G5 w t5 p5) :
    Calls Tryd.prog 47 #[.string s] w fun e w' => e = .returned (.bool (((parts 46 s.data.toList).map ba).all metaPart)) ∧ Below w.heap.size w w' := by
  have hu79 := Tryd.underlying79
  have F := Lib.hid (zzmeta_calls s hs t5 p5 w hG)
  clear hG
  generalize ((parts 46 s.data.toList).map ba).all metaPart = b at F ⊢
  unfold metaVal at F
  cases b with
  | true =>
    have F2 := Lib.hid F.out
    simp only [if_true] at F2
    clear F
    go_enter Tryd.func47, Tryd.ntmps47
    go_wp2_with (go_at_call 96; refine F2.out.mono ?_; rintro e wx ⟨rfl, hb⟩)
    go_ret
    exact ⟨rfl, hb⟩
  | false =>
    have F2 := Lib.hid F.out
    simp only [Bool.false_eq_true, if_false] at F2
    clear F
    go_enter Tryd.func47, Tryd.ntmps47
    go_wp2_with (go_at_call 96; refine F2.out.mono ?_; rintro e wx ⟨rfl, hb⟩)
    go_ret
    exact ⟨rfl, hb⟩

set_option maxRecDepth 100000 in
set_option maxHeartbeats 4000000 in
theorem zzpre_calls (s : ByteArray) (hs : s.size ≤ 2147483647) (t3 : TypeId) (p3 : Value) (t4 : TypeId) (p4 : Value) (w : World) (hG : GV w t3 p3 t4 p4) :
    Calls Tryd.prog 76 #[.string s] w fun e w' => e = .returned (errVal (preErr ((parts 46 s.data.toList).map ba)) (.iface t3 p3) (.iface t4 p4)) ∧ Below w.heap.size w w' := by
  have F := Lib.hid (validate_calls s hs t3 p3 t4 p4 w hG)
  clear hG
  generalize errVal (preErr ((parts 46 s.data.toList).map ba)) (.iface t3 p3) (.iface t4 p4) = r at F ⊢
  go_enter Tryd.func76, Tryd.ntmps76
  go_wp2_with (go_at_call 119; refine F.out.mono ?_; rintro e wx ⟨rfl, hb⟩)
  go_ret
  exact ⟨rfl, hb⟩

set_option maxRecDepth 100000 in
set_option maxHeartbeats 4000000 in
theorem vpre_calls (s : ByteArray) (hs : s.size ≤ 2147483647) (t3 : TypeId) (p3 : Value) (t4 : TypeId) (p4 : Value) (w : World) (hG : GV w t3 p3 t4 p4) :
    Calls Tryd.prog 46 #[.string s] w fun e w' => e = .returned (.bool (preErr ((parts 46 s.data.toList).map ba) == 0)) ∧ Below w.heap.size w w' := by
  have hu79 := Tryd.underlying79
  have F := Lib.hid (zzpre_calls s hs t3 p3 t4 p4 w hG)
  clear hG
  generalize preErr ((parts 46 s.data.toList).map ba) = n at F ⊢
  unfold errVal at F
  by_cases h0 : n = 0
  · subst h0
    have F2 := Lib.hid F.out
    simp only [if_true] at F2
    clear F
    go_enter Tryd.func46, Tryd.ntmps46
    go_wp2_with (go_at_call 76; refine F2.out.mono ?_; rintro e wx ⟨rfl, hb⟩)
    go_ret
    exact ⟨rfl, hb⟩
  · have hb0 : (n == 0) = false := beq_eq_false_iff_ne.2 h0
    rw [hb0]
    have F2 := Lib.hid F.out
    rw [if_neg h0] at F2
    obtain ⟨te, pe, hv⟩ : ∃ te pe, (if n = 3 then Value.iface t3 p3 else Value.iface t4 p4) = .iface te pe := by
      split
      · exact ⟨_, _, rfl⟩
      · exact ⟨_, _, rfl⟩
    rw [hv] at F2
    clear F hv
    go_enter Tryd.func46, Tryd.ntmps46
    go_wp2_with (go_at_call 76; refine F2.out.mono ?_; rintro e wx ⟨rfl, hb⟩)
    go_ret
    exact ⟨rfl, hb⟩
end Go.Proofs.YtgenbmhmcnaiiaaDoor.H
