/- validatePrerelease: the first part that is wrong decides. -/
import Derived.Test.YtgenbmhmcnaiiaaDoorHaOnlyKS
import Derived.Test.YtgenbmhmcnaiiaaDoorHaSplitKS
namespace Go.Proofs.YtgenbmhmcnaiiaaDoor.H
open Go.RowKit Go.Proofs.YtgenbmhmcnaiiaaDoorW.PrintWords
set_option linter.unusedVariables false
set_option linter.unusedSimpArgs false

def numB : ByteArray := ⟨#[48, 49, 50, 51, 52, 53, 54, 55, 56, 57]⟩
def allowedB : ByteArray := ⟨#[97, 98, 99, 100, 101, 102, 103, 104, 105, 106, 107, 108, 109, 110, 111, 112, 113, 114, 115, 116, 117, 118, 119, 120, 121, 122, 65, 66, 67, 68, 69, 70, 71, 72, 73, 74, 75, 76, 77, 78, 79, 80, 81, 82, 83, 84, 85, 86, 87, 88, 89, 90, 45, 48, 49, 50, 51, 52, 53, 54, 55, 56, 57]⟩
def headIs (x : ByteArray) : Bool := x.data.toList.head? == some 48
def partErr (x : ByteArray) : Nat := if x.data.toList = [] then 4 else if only x numB = true then (if 1 < x.size ∧ headIs x = true then 3 else 0) else if only x allowedB = true then 0 else 4
def preErr : List ByteArray → Nat
  | [] => 0
  | x :: r => if partErr x = 0 then preErr r else partErr x
def errVal (n : Nat) (v3 v4 : Value) : Value := if n = 0 then .nilIface else if n = 3 then v3 else v4
theorem ret_val {a b : Value} (h : a = b) : Ending.returned a = .returned b := by rw [h]
theorem preErr_step {xs : List ByteArray} {k : Nat} (h : k < xs.length) : preErr (xs.drop k) = if partErr xs[k] = 0 then preErr (xs.drop (k + 1)) else partErr xs[k] := by
  rw [List.drop_eq_getElem_cons h]
  rfl
/-- The two sentinels that the check of a prerelease hands back. -/
structure GV (w : World) (t3 : TypeId) (p3 : Value) (t4 : TypeId) (p4 : Value) : Prop where
  zero : w.cell? ⟨3, 0, none⟩ = some (.iface t3 p3)
  pre : w.cell? ⟨4, 0, none⟩ = some (.iface t4 p4)
theorem GV.below {w w' : World} {t3 : TypeId} {p3 : Value} {t4 : TypeId} {p4 : Value} (h : GV w t3 p3 t4 p4) (hb : Below w.heap.size w w') : GV w' t3 p3 t4 p4 :=
  ⟨(hb.cell (World.block_lt_of_cell? w _ h.zero)).trans h.zero, (hb.cell (World.block_lt_of_cell? w _ h.pre)).trans h.pre⟩

set_option maxRecDepth 100000 in
set_option maxHeartbeats 4000000 in
theorem validate_calls (s : ByteArray) (hs : s.size ≤ 2147483647) (t3 : TypeId) (p3 : Value) (t4 : TypeId) (p4 : Value) (w : World) (hG : GV w t3 p3 t4 p4) :
    Calls Tryd.prog 119 #[.string s] w fun e w' => e = .returned (errVal (preErr ((parts 46 s.data.toList).map ba)) (.iface t3 p3) (.iface t4 p4)) ∧ Below w.heap.size w w' := by
  have hu9 := Tryd.underlying9
  have hls : ∀ x ∈ (parts 46 s.data.toList).map ba, x.size ≤ 2147483647 := by
    intro x hx
    obtain ⟨p, hp, rfl⟩ := List.mem_map.1 hx
    have := parts_mem_length hp
    rw [← size_eq] at this
    simp; omega
  have hns : ((parts 46 s.data.toList).map ba).length ≤ 2147483648 := by
    have := parts_length 46 s.data.toList
    rw [← size_eq] at this
    simp; omega
  obtain ⟨R, hR⟩ : ∃ R, errVal (preErr ((parts 46 s.data.toList).map ba)) (.iface t3 p3) (.iface t4 p4) = R := ⟨_, rfl⟩
  rw [hR]
  have C1 := Lib.hid (split_any 46 s hs w)
  generalize (parts 46 s.data.toList).map ba = xs at *
  have HP := Lib.hid hR
  have HLS := Lib.hid hls
  clear hls hs hR
  go_enter Tryd.func119, Tryd.ntmps119
  go_wp2_with (go_at_call 148; refine C1.out.mono ?_; rintro e w1 ⟨⟨A, m, rfl, hm, hr⟩, hbb⟩; have HR1 := Lib.hid hr)
  clear hr C1
  go_loopw [10] (fun i wr => ∃ k : Nat, i = .int .i64 k ∧ k ≤ xs.length ∧ Hid (errVal (preErr (xs.drop k)) (.iface t3 p3) (.iface t4 p4) = R) ∧ Below w.heap.size w wr ∧ Hid (RdS wr A xs)) (fun i _ => xs.length - (intOf i).toNat)
  case atStart => exact ⟨0, rfl, Nat.zero_le _, HP, hbb, HR1⟩
  case round =>
    obtain ⟨k, rfl, hk, HQ, hbk, HX⟩ := hrel
    clear HR1 HP hbb
    obtain ⟨gz, gp⟩ := hG.below hbk
    by_cases hx : k < xs.length
    · obtain ⟨ad, rfl, hc1⟩ := HX.out k hx
      have hsx : xs[k].size ≤ 2147483647 := HLS.out _ (List.getElem_mem hx)
      have HS := Lib.hid (preErr_step hx)
      obtain ⟨x, hxk⟩ : ∃ x, xs[k] = x := ⟨_, rfl⟩
      rw [hxk] at hc1 hsx HS
      have Q4 : partErr x = 4 → Hid (R = .iface t4 p4) := fun h => Lib.hid (by rw [← HQ.out, HS.out, h]; rfl)
      have Q3 : partErr x = 3 → Hid (R = .iface t3 p3) := fun h => Lib.hid (by rw [← HQ.out, HS.out, h]; rfl)
      have Q0 : partErr x = 0 → Hid (errVal (preErr (xs.drop (k + 1))) (.iface t3 p3) (.iface t4 p4) = R) := fun h => Lib.hid (by rw [← HQ.out, HS.out, h]; rfl)
      clear HQ HS
      rcases hxl : x.data.toList with _ | ⟨c0, r0⟩
      · obtain rfl : x = ⟨#[]⟩ := eq_of_data (by rw [hxl])
        have HR4 := Q4 rfl
        clear Q4 Q3 Q0
        go_wp2
        go_ret
        exact ⟨ret_val HR4.out.symm, hbk⟩
      · have hn1 : ¬ x.data.toList = [] := by rw [hxl]; simp
        have hn2 : ¬ x.toList = [] := by rw [toList_eq]; exact hn1
        have hn3 : ¬ x.data = #[] := fun h => hn1 (by rw [h])
        have hn4 : x.toList.isEmpty = false := by rw [toList_eq, hxl]; rfl
        have hsz : 0 < x.size := by rw [size_eq, hxl]; simp
        obtain ⟨o1, ho1⟩ : ∃ b, only x numB = b := ⟨_, rfl⟩
        obtain ⟨o2, ho2⟩ : ∃ b, only x allowedB = b := ⟨_, rfl⟩
        have O1 := Lib.hid (fun W => only_calls x numB W)
        have O2 := Lib.hid (fun W => only_calls x allowedB W)
        rw [ho1] at O1
        rw [ho2] at O2
        unfold partErr at Q4 Q3 Q0
        rw [if_neg hn1, ho1, ho2] at Q4 Q3 Q0
        have hx0 : x.data[0]? = some c0 := by rw [← Array.getElem?_toList, hxl]; rfl
        have hhd : headIs x = decide (c0 = 48) := by unfold headIs; rw [hxl]; by_cases h : c0 = 48 <;> simp [h]
        have hx1 : x[0]'hsz = c0 := by
          have h := hx0
          rw [Array.getElem?_eq_some_iff] at h
          exact h.2
        rw [hhd] at Q3 Q0
        cases o1 with
        | true =>
          by_cases h1 : 1 < x.size
          · by_cases h48 : c0 = 48
            · have HR3 := Q3 (by rw [if_pos rfl, if_pos ⟨h1, by simpa using h48⟩])
              clear Q4 Q3 Q0
              have hq : ((((x[0]'hsz).toNat : Int)) == 48) = true := by rw [hx1, h48]; rfl
              go_wp2_with (go_at_call 137; refine (O1.out _).mono ?_; rintro e w3 ⟨rfl, hb3⟩; obtain ⟨gz, gp⟩ := GV.below ⟨gz, gp⟩ hb3)
              all_goals first
                | (go_ret; exact ⟨ret_val HR3.out.symm, chain hbk hb3⟩)
                | (exfalso; simp_all; done)
            · have HR0 := Q0 (by rw [if_pos rfl, if_neg (fun h => h48 (by simpa using h.2))])
              have hq : ((((x[0]'hsz).toNat : Int)) == 48) = false := by
                rw [hx1, beq_eq_false_iff_ne]
                intro h
                apply h48
                apply UInt8.toNat_inj.1
                have : c0.toNat = 48 := by omega
                rw [this]; rfl
              clear Q4 Q3 Q0
              go_wp2_with (go_at_call 137; refine (O1.out _).mono ?_; rintro e w3 ⟨rfl, hb3⟩; obtain ⟨gz, gp⟩ := GV.below ⟨gz, gp⟩ hb3)
              all_goals first
                | (go_roundw
                   case rel => exact ⟨k + 1, by go_num, by omega, HR0, chain hbk hb3, Lib.hid (HX.out.below hb3)⟩
                   case measure => simp [intOf]; omega)
                | (exfalso; simp_all; done)
          · have HR0 := Q0 (by rw [if_pos rfl, if_neg (fun h => h1 h.1)])
            clear Q4 Q3 Q0
            go_wp2_with (go_at_call 137; refine (O1.out _).mono ?_; rintro e w3 ⟨rfl, hb3⟩; obtain ⟨gz, gp⟩ := GV.below ⟨gz, gp⟩ hb3)
            go_roundw
            case rel => exact ⟨k + 1, by go_num, by omega, HR0, chain hbk hb3, Lib.hid (HX.out.below hb3)⟩
            case measure => simp [intOf]; omega
        | false =>
          cases o2 with
          | true =>
            have HR0 := Q0 (by simp)
            clear Q4 Q3 Q0
            go_wp2_with (go_at_call 137; first | (refine (O1.out _).mono ?_; rintro e w3 ⟨rfl, hb3⟩; obtain ⟨gz, gp⟩ := GV.below ⟨gz, gp⟩ hb3) | (refine (O2.out _).mono ?_; rintro e w4 ⟨rfl, hb4⟩; obtain ⟨gz, gp⟩ := GV.below ⟨gz, gp⟩ hb4))
            go_roundw
            case rel => exact ⟨k + 1, by go_num, by omega, HR0, chain hbk (chain hb3 hb4), Lib.hid (HX.out.below (chain hb3 hb4))⟩
            case measure => simp [intOf]; omega
          | false =>
            have HR4 := Q4 (by simp)
            clear Q4 Q3 Q0
            go_wp2_with (go_at_call 137; first | (refine (O1.out _).mono ?_; rintro e w3 ⟨rfl, hb3⟩; obtain ⟨gz, gp⟩ := GV.below ⟨gz, gp⟩ hb3) | (refine (O2.out _).mono ?_; rintro e w4 ⟨rfl, hb4⟩; obtain ⟨gz, gp⟩ := GV.below ⟨gz, gp⟩ hb4))
            go_ret
            exact ⟨ret_val HR4.out.symm, chain hbk (chain hb3 hb4)⟩
    · have hke : k = xs.length := by omega
      have HQ2 : Hid (R = .nilIface) := Lib.hid (by rw [← HQ.out, hke, List.drop_length]; rfl)
      go_wp2
      go_ret
      exact ⟨ret_val HQ2.out.symm, hbk⟩
end Go.Proofs.YtgenbmhmcnaiiaaDoor.H
