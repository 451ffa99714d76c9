/- Texts of this claim, joined. -/
import Derived.Test.YtekkaknpgdgjjaaGreatDoorHaBaseW1
import Derived.Test.YtekkaknpgdgjjaaGreatDoorBasicW1
import Derived.Lib.OthersKept
import Derived.Test.YtekkaknpgdgjjaaGreatDoorPLW1
/- zzIndexRune and containsOnly. -/
namespace Go.Proofs.YtekkaknpgdgjjaaGreatDoor.H
open Go.RowKit Go.Proofs.YtekkaknpgdgjjaaGreatDoorW.PrintWords
set_option linter.unusedVariables false
set_option linter.unusedSimpArgs false

/-- The first place of a rune in a text, -1 if there is none (or the rune is no rune). -/
def zr (s : ByteArray) (x : Nat) : Int := if 55296 ≤ x ∧ x ≤ 57343 then -1 else Lib.idxFunc (fun c => c == x) true s

set_option maxHeartbeats 4000000 in
set_option maxRecDepth 1000000 in
theorem indexrune_calls (s : ByteArray) (x : Nat) (hx : x ≤ 1114111) (w : World) :
    Calls Tryz.prog 95 #[.string s, .int .i32 (x : Int)] w fun e w' => e = .returned (.int .i64 (zr s x)) ∧ Below w.heap.size w w' := by
  have t0 := Tryz.underlying0
  have t3 := Tryz.underlying3
  have t4 := Tryz.underlying4
  have t9 := Tryz.underlying9
  have t21 := Tryz.underlying21
  have n0 : ¬ ((x : Int) < 0) := by omega
  have n1 : ¬ ((1114111 : Int) < (x : Int)) := by omega
  unfold zr
  by_cases hsur : 55296 ≤ x ∧ x ≤ 57343
  · rw [if_pos hsur]
    have n2 : ¬ ((x : Int) = 65533) := by omega
    have n3 : (55296 : Int) ≤ (x : Int) := by omega
    have n4 : (x : Int) ≤ 57343 := by omega
    go_enter Tryz.func95, Tryz.ntmps95
    go_wp2
    all_goals first
      | (exfalso; omega)
      | (go_ret; exact ⟨rfl, Below.refl _ _⟩)
  · rw [if_neg hsur]
    go_enter Tryz.func95, Tryz.ntmps95
    go_wp2
    all_goals first
      | (exfalso; omega)
      | skip
    all_goals
      go_loopg [] s.size (fun gf wx => ∃ pos : Nat, wx.heap[w.heap.size]? = some (.stringIter s pos) ∧ Below w.heap.size w wx ∧ Lib.idxFuncFrom (fun c => c == x) true s gf pos = Lib.idxFunc (fun c => c == x) true s ∧ s.size ≤ pos + gf)
      case atStart => exact ⟨0, World.iter_heap w s 0, (Below.refl _ w).alloc (Nat.le_refl _) _, rfl, by omega⟩
      case round =>
        obtain ⟨pos, hit, hbw, hleft, hfu⟩ := hrel
        by_cases hps : pos < s.size
        · obtain ⟨g', rfl⟩ : ∃ g', gk = g' + 1 := ⟨gk - 1, by omega⟩
          have hnx : ∀ ty, (Instr.next (.pointer (some ⟨w.heap.size, 0, none⟩)) true ty).run Tryz.prog wr = _ := fun ty => Lib.run_next_any_at wr w.heap.size s pos ty hit hps
          have hwd := Lib.width_pos s pos
          obtain ⟨R, hR⟩ : ∃ R, (Utf8.decode s pos).1 = R := ⟨_, rfl⟩
          obtain ⟨K, hK⟩ : ∃ K, (Utf8.decode s pos).2 = K := ⟨_, rfl⟩
          simp only [Lib.idxFuncFrom, hps, if_true, hR, hK] at hleft
          rw [hR, hK] at hnx
          rw [hK] at hwd
          have hit2 := Lib.iterAt_heap wr w.heap.size s pos (pos + K) hit
          have hbw2 := Lib.below_iterAt hbw (k := w.heap.size) (Nat.le_refl _) s (pos + K)
          obtain ⟨W, hWd⟩ : ∃ W, wr.iterAt w.heap.size s (pos + K) = W := ⟨_, rfl⟩
          rw [hWd] at hnx hit2 hbw2
          by_cases hRx : R = x
          · have hRi : ((R : Int) = (x : Int)) := by omega
            rw [if_pos (by simp [hRx])] at hleft
            subst hRx
            go_wp2
            go_ret
            exact ⟨by rw [← hleft] <;> rfl, hbw2⟩
          · have hRi : ¬ ((R : Int) = (x : Int)) := by omega
            rw [if_neg (by simp [hRx])] at hleft
            go_wp2
            go_roundg g'
            case measure => omega
            case rel => exact ⟨pos + K, hit2, hbw2, hleft, by omega⟩
        · have hnx : ∀ ty, (Instr.next (.pointer (some ⟨w.heap.size, 0, none⟩)) true ty).run Tryz.prog wr = _ := fun ty => Lib.run_next_end_at wr w.heap.size s pos ty hit hps
          rw [Lib.idxFuncFrom_end _ true s gk pos hps] at hleft
          go_wp2
          go_ret
          exact ⟨by rw [← hleft] <;> rfl, hbw⟩
end Go.Proofs.YtekkaknpgdgjjaaGreatDoor.H

/- containsOnly: which bytes a text has. -/
namespace Go.Proofs.YtekkaknpgdgjjaaGreatDoor.H
open Go.RowKit Go.Proofs.YtekkaknpgdgjjaaGreatDoorW.PrintWords
set_option linter.unusedVariables false
set_option linter.unusedSimpArgs false

set_option maxRecDepth 100000 in
theorem containsrune_calls (s : ByteArray) (x : Nat) (hx : x ≤ 1114111) (w : World) :
    Calls Tryz.prog 81 #[.string s, .int .i32 (x : Int)] w fun e w' => e = .returned (.bool (decide (0 ≤ zr s x))) ∧ Below w.heap.size w w' := by
  have C := Lib.hid (indexrune_calls s x hx w)
  generalize zr s x = z at *
  go_enter Tryz.func81, Tryz.ntmps81
  go_wp2_with (go_at_call 95; refine C.out.mono ?_; rintro e w1 ⟨rfl, hb⟩)
  go_ret
  exact ⟨by simp, hb⟩

def notIn (comp : ByteArray) (x : Nat) : Bool := !(decide (0 ≤ zr comp x))
set_option maxRecDepth 100000 in
theorem notin_calls (comp : ByteArray) (g : Nat) (x : Nat) (hx : x ≤ 1114111) (w : World) (hc : w.cell? ⟨g, 0, none⟩ = some (.string comp)) :
    Calls Tryz.prog 80 (#[.int .i32 (x : Int)] ++ #[.pointer (some ⟨g, 0, none⟩)]) w fun e w' => e = .returned (.bool (notIn comp x)) ∧ Below w.heap.size w w' := by
  have C := Lib.hid (containsrune_calls comp x hx w)
  unfold notIn
  generalize decide (0 ≤ zr comp x) = z at *
  change Calls Tryz.prog 80 #[.int .i32 (x : Int), .pointer (some ⟨g, 0, none⟩)] w _
  go_enter Tryz.func80, Tryz.ntmps80
  go_wp2_with (go_at_call 81; refine C.out.mono ?_; rintro e w1 ⟨rfl, hb⟩)
  go_ret
  exact ⟨by simp, hb⟩

def only (s comp : ByteArray) : Bool := Lib.idxFunc (notIn comp) true s == -1
set_option maxRecDepth 100000 in
theorem only_calls (s comp : ByteArray) (w : World) :
    Calls Tryz.prog 62 #[.string s, .string comp] w fun e w' => e = .returned (.bool (only s comp)) ∧ Below w.heap.size w w' := by
  have hu9 := Tryz.underlying9
  have eg : ∀ args w, (callFunc 80 args).run Tryz.prog w = .ok (.enter 80 args) w := enters_of Tryz.func80 (by kernel_rfl) rfl
  have hcell : (w.alloc (.cells #[.string comp] 9)).cell? ⟨w.heap.size, 0, none⟩ = some (.string comp) := (blk_cell (heap_alloc_new w _) 0).trans rfl
  have hp : PredGrows Tryz.prog 80 #[.pointer (some ⟨w.heap.size, 0, none⟩)] (notIn comp) (w.alloc (.cells #[.string comp] 9)) := by
    intro W x hx hb
    exact notin_calls comp w.heap.size x hx W ((hb.cell (World.block_lt_of_cell? _ _ hcell)).trans hcell)
  have F := Lib.hid (Tryz.strings_IndexFunc_grows 80 #[.pointer (some ⟨w.heap.size, 0, none⟩)] eg (notIn comp) s (w.alloc (.cells #[.string comp] 9)) hp)
  have q0 := below_new' w (.cells #[.string comp] 9)
  unfold only
  generalize Lib.idxFunc (notIn comp) true s = z at *
  clear hp hcell eg
  go_enter Tryz.func62, Tryz.ntmps62
  go_wp2_with (go_at_call 79; refine F.out.mono ?_; rintro e w1 ⟨rfl, hb⟩)
  go_ret
  exact ⟨by simp, chain q0 hb⟩
end Go.Proofs.YtekkaknpgdgjjaaGreatDoor.H

/- zzSplit at one byte, as the list of the parts. -/
namespace Go.Proofs.YtekkaknpgdgjjaaGreatDoor.H
open Go.RowKit Go.Proofs.YtekkaknpgdgjjaaGreatDoorW.PrintWords Go.Proofs.YtekkaknpgdgjjaaGreatDoor.PL
set_option linter.unusedVariables false
set_option linter.unusedSimpArgs false

theorem wrap_small {i : Int} (h0 : 0 ≤ i) (h : i ≤ 4294967296) : wrap64 i = i := by unfold wrap64; omega

/-- zzIndex of one byte, from place i on: the first place of it. -/
theorem index_none (c : UInt8) (s : ByteArray) (hs : s.size ≤ 2147483647) (hc : c ∉ s.data.toList) (d : Nat) : ∀ (k i : Nat), i + d = s.size → d < k →
    semver_zzIndex.l0 k s (ba [c]) (i : Int) = some (-1) := by
  induction d with
  | zero =>
    intro k i hi hk
    obtain ⟨k, rfl⟩ : ∃ m, k = m + 1 := ⟨k - 1, by omega⟩
    simp only [semver_zzIndex.l0]
    rw [if_neg]
    simp only [ba_size, List.length_cons, List.length_nil]
    rw [wrap_small (by omega) (by omega)]
    omega
  | succ d ih =>
    intro k i hi hk
    obtain ⟨k, rfl⟩ : ∃ m, k = m + 1 := ⟨k - 1, by omega⟩
    have hw : wrap64 ((i : Int) + ((ba [c]).size : Int)) = ((i + 1 : Nat) : Int) := by
      rw [wrap_small (by omega) (by simp; omega)]
      simp
    simp only [semver_zzIndex.l0]
    rw [hw, if_pos (by omega), if_pos (by omega), if_pos (by omega), if_neg]
    · rw [wrap_small (by omega) (by omega)]
      exact ih k (i + 1) (by omega) (by omega)
    · intro e
      rw [Int.toNat_natCast, Int.toNat_natCast, Lib.extract_toList, ba_toList] at e
      apply hc
      have : c ∈ (s.data.toList.drop i).take (i + 1 - i) := by rw [e]; simp
      exact List.mem_of_mem_drop (List.mem_of_mem_take this)

theorem index_at (c : UInt8) (a b : List UInt8) (hs : (ba (a ++ c :: b)).size ≤ 2147483647) (hc : c ∉ a) (d : Nat) : ∀ (k i : Nat), i + d = a.length → d < k →
    semver_zzIndex.l0 k (ba (a ++ c :: b)) (ba [c]) (i : Int) = some (a.length : Int) := by
  have hsz : (ba (a ++ c :: b)).size = a.length + 1 + b.length := by simp; omega
  induction d with
  | zero =>
    intro k i hi hk
    obtain ⟨k, rfl⟩ : ∃ m, k = m + 1 := ⟨k - 1, by omega⟩
    obtain rfl : i = a.length := by omega
    have hw : wrap64 ((a.length : Int) + ((ba [c]).size : Int)) = ((a.length + 1 : Nat) : Int) := by
      rw [wrap_small (by omega) (by simp; omega)]
      simp
    simp only [semver_zzIndex.l0]
    rw [hw, if_pos (by omega), if_pos (by omega), if_pos (by omega), if_pos]
    rw [Int.toNat_natCast, Int.toNat_natCast, Lib.extract_toList, ba_toList, ba_data]
    simp
  | succ d ih =>
    intro k i hi hk
    obtain ⟨k, rfl⟩ : ∃ m, k = m + 1 := ⟨k - 1, by omega⟩
    have hw : wrap64 ((i : Int) + ((ba [c]).size : Int)) = ((i + 1 : Nat) : Int) := by
      rw [wrap_small (by omega) (by simp; omega)]
      simp
    simp only [semver_zzIndex.l0]
    rw [hw, if_pos (by omega), if_pos (by omega), if_pos (by omega), if_neg]
    · rw [wrap_small (by omega) (by omega)]
      exact ih k (i + 1) (by omega) (by omega)
    · intro e
      rw [Int.toNat_natCast, Int.toNat_natCast, Lib.extract_toList, ba_toList, ba_data] at e
      apply hc
      have h1 : ((a ++ c :: b).drop i).take (i + 1 - i) = (a.drop i).take 1 := by
        rw [List.drop_append_of_le_length (by omega), List.take_append_of_le_length (by simp; omega)]
        congr 1
        omega
      rw [h1] at e
      have : c ∈ (a.drop i).take 1 := by rw [e]; simp
      exact List.mem_of_mem_drop (List.mem_of_mem_take this)

theorem index_none0 (c : UInt8) (s : ByteArray) (hs : s.size ≤ 2147483647) (hc : c ∉ s.data.toList) (k : Nat) (hk : s.size < k) : semver_zzIndex.f k s (ba [c]) = some (-1) := by
  have h := index_none c s hs hc s.size k 0 (by omega) hk
  rw [Int.natCast_zero] at h
  exact h
theorem index_at0 (c : UInt8) (a b : List UInt8) (hs : (ba (a ++ c :: b)).size ≤ 2147483647) (hc : c ∉ a) (k : Nat) (hk : a.length < k) :
    semver_zzIndex.f k (ba (a ++ c :: b)) (ba [c]) = some (a.length : Int) := by
  have h := index_at c a b hs hc a.length k 0 (by omega) hk
  rw [Int.natCast_zero] at h
  exact h

theorem split_parts (c : UInt8) : ∀ (n : Nat) (s : ByteArray) (acc : List ByteArray) (k : Nat), s.size ≤ n → s.size ≤ 2147483647 → acc.length + s.size ≤ 4294967296 → 2 * n + 2 < k →
    semver_zzSplit.l0 k s (ba [c]) acc = some (acc ++ (parts c s.data.toList).map ba) := by
  intro n
  induction n with
  | zero =>
    intro s acc k hn hs ha hk
    obtain ⟨k, rfl⟩ : ∃ m, k = m + 1 := ⟨k - 1, by omega⟩
    have hnil : s.data.toList = [] := by rw [← List.length_eq_zero_iff, ← size_eq]; omega
    simp only [semver_zzSplit.l0]
    rw [index_none0 c s hs (by simp [hnil]) k (by omega)]
    simp only [Option.bind_some]
    rw [if_pos (by omega), if_pos (by omega), hnil]
    simp [parts, ← hnil, ba_of]
  | succ n ih =>
    intro s acc k hn hs ha hk
    obtain ⟨k, rfl⟩ : ∃ m, k = m + 1 := ⟨k - 1, by omega⟩
    rcases first_cut c s.data.toList with h | ⟨a, b, e, h⟩
    · simp only [semver_zzSplit.l0]
      rw [index_none0 c s hs h k (by omega)]
      simp only [Option.bind_some]
      rw [if_pos (by omega), if_pos (by omega), parts_no h]
      simp [ba_of]
    · obtain rfl : s = ba (a ++ c :: b) := eq_of_data (by rw [e, ba_data])
      have hsz : (ba (a ++ c :: b)).size = a.length + 1 + b.length := by simp; omega
      simp only [semver_zzSplit.l0]
      rw [index_at0 c a b hs h k (by omega)]
      have hw : wrap64 ((a.length : Int) + ((ba [c]).size : Int)) = ((a.length + 1 : Nat) : Int) := by
        rw [wrap_small (by omega) (by simp; omega)]
        simp
      simp only [Option.bind_some]
      rw [if_neg (by omega), if_pos (by omega), if_pos (by omega), if_pos (by omega), hw, if_pos (by omega), if_pos (by omega)]
      rw [Int.toNat_natCast, Int.toNat_natCast, extract_end, extract_zero, ba_data]
      have e1 : (a ++ c :: b).drop (a.length + 1) = b := by simp
      have e2 : (a ++ c :: b).take a.length = a := by simp
      rw [e1, e2, ih (ba b) _ k (by simp; omega) (by simp; omega) (by simp; omega) (by omega), parts_at h, ba_data]
      simp

theorem split_any (c : UInt8) (s : ByteArray) (hs : s.size ≤ 2147483647) (w : World) :
    Calls Tryz.prog 61 #[.string s, .string (ba [c])] w fun e w' => (∃ A m, e = .returned (.slice A ((parts c s.data.toList).map ba).length m) ∧ ((parts c s.data.toList).map ba).length ≤ m ∧ RdS w' A ((parts c s.data.toList).map ba)) ∧ Below w.heap.size w w' := by
  refine (semver_zzSplit.calls (2 * s.size + 3) s (ba [c]) ((parts c s.data.toList).map ba) w ?_).mono ?_
  · unfold semver_zzSplit.f
    rw [split_parts c s.size s [] _ (Nat.le_refl _) hs (by simp; omega) (by omega)]
    simp
  · rintro e w' ⟨v, rfl, hr, hb⟩
    obtain ⟨A, m, rfl, hm, hd⟩ := RdS.of_R hr
    exact ⟨⟨A, m, rfl, hm, hd⟩, hb⟩
end Go.Proofs.YtekkaknpgdgjjaaGreatDoor.H

/- validatePrerelease: the first part that is wrong decides. -/
namespace Go.Proofs.YtekkaknpgdgjjaaGreatDoor.H
open Go.RowKit Go.Proofs.YtekkaknpgdgjjaaGreatDoorW.PrintWords
set_option linter.unusedVariables false
set_option linter.unusedSimpArgs false

def numBytes : ByteArray := ⟨#[48, 49, 50, 51, 52, 53, 54, 55, 56, 57]⟩
def allowedB : ByteArray := ⟨#[97, 98, 99, 100, 101, 102, 103, 104, 105, 106, 107, 108, 109, 110, 111, 112, 113, 114, 115, 116, 117, 118, 119, 120, 121, 122, 65, 66, 67, 68, 69, 70, 71, 72, 73, 74, 75, 76, 77, 78, 79, 80, 81, 82, 83, 84, 85, 86, 87, 88, 89, 90, 45, 48, 49, 50, 51, 52, 53, 54, 55, 56, 57]⟩
def headIs (x : ByteArray) : Bool := x.data.toList.head? == some 48
def partErr (x : ByteArray) : Nat := if x.data.toList = [] then 4 else if only x numBytes = true then (if 1 < x.size ∧ headIs x = true then 3 else 0) else if only x allowedB = true then 0 else 4
set_option maxRecDepth 100000 in
set_option maxHeartbeats 4000000 in
theorem validate_calls (s : ByteArray) (hs : s.size ≤ 2147483647) (hok : ∀ x ∈ (parts 46 s.data.toList).map ba, partErr x = 0) (w : World) :
    Calls Tryz.prog 48 #[.string s] w fun e w' => e = .returned .nilIface ∧ Below w.heap.size w w' := by
  have hu9 := Tryz.underlying9
  have hls : ∀ x ∈ (parts 46 s.data.toList).map ba, x.size ≤ 2147483647 := by
    intro x hx
    obtain ⟨p, hp, rfl⟩ := List.mem_map.1 hx
    have := parts_mem_length hp
    rw [← size_eq] at this
    simp; omega
  have hns : ((parts 46 s.data.toList).map ba).length ≤ 2147483648 := by
    have := parts_length 46 s.data.toList
    rw [← size_eq] at this
    simp; omega
  have C1 := Lib.hid (split_any 46 s hs w)
  generalize (parts 46 s.data.toList).map ba = xs at *
  have HOK := Lib.hid hok
  have HLS := Lib.hid hls
  clear hls hs hok
  go_enter Tryz.func48, Tryz.ntmps48
  go_wp2_with (go_at_call 61; refine C1.out.mono ?_; rintro e w1 ⟨⟨A, m, rfl, hm, hr⟩, hbb⟩; have HR1 := Lib.hid hr)
  clear hr C1
  go_loopw [10] (fun i wr => ∃ k : Nat, i = .int .i64 k ∧ k ≤ xs.length ∧ Below w.heap.size w wr ∧ Hid (RdS wr A xs)) (fun i _ => xs.length - (intOf i).toNat)
  case atStart => exact ⟨0, rfl, Nat.zero_le _, hbb, HR1⟩
  case round =>
    obtain ⟨k, rfl, hk, hbk, HX⟩ := hrel
    clear HR1 hbb
    by_cases hx : k < xs.length
    · obtain ⟨ad, rfl, hc1⟩ := HX.out k hx
      have hsx : xs[k].size ≤ 2147483647 := HLS.out _ (List.getElem_mem hx)
      have hz := HOK.out _ (List.getElem_mem hx)
      obtain ⟨x, hxk⟩ : ∃ x, xs[k] = x := ⟨_, rfl⟩
      rw [hxk] at hc1 hsx hz
      rcases hxl : x.data.toList with _ | ⟨c0, r0⟩
      · obtain rfl : x = ⟨#[]⟩ := eq_of_data (by rw [hxl])
        cases hz
      · have hn1 : ¬ x.data.toList = [] := by rw [hxl]; simp
        have hn2 : ¬ x.toList = [] := by rw [toList_eq]; exact hn1
        have hn3 : ¬ x.data = #[] := fun h => hn1 (by rw [h])
        have hn4 : x.toList.isEmpty = false := by rw [toList_eq, hxl]; rfl
        have hsz : 0 < x.size := by rw [size_eq, hxl]; simp
        obtain ⟨o1, ho1⟩ : ∃ b, only x numBytes = b := ⟨_, rfl⟩
        obtain ⟨o2, ho2⟩ : ∃ b, only x allowedB = b := ⟨_, rfl⟩
        have O1 := Lib.hid (fun W => only_calls x numBytes W)
        have O2 := Lib.hid (fun W => only_calls x allowedB W)
        rw [ho1] at O1
        rw [ho2] at O2
        unfold partErr at hz
        rw [if_neg hn1, ho1, ho2] at hz
        have hx0 : x.data[0]? = some c0 := by rw [← Array.getElem?_toList, hxl]; rfl
        have hhd : headIs x = decide (c0 = 48) := by unfold headIs; rw [hxl]; by_cases h : c0 = 48 <;> simp [h]
        have hx1 : x[0]'hsz = c0 := by
          have h := hx0
          rw [Array.getElem?_eq_some_iff] at h
          exact h.2
        rw [hhd] at hz
        cases o1 with
        | true =>
          by_cases h1 : 1 < x.size
          · by_cases h48 : c0 = 48
            · rw [if_pos rfl, if_pos ⟨h1, by simpa using h48⟩] at hz
              cases hz
            · have hq : ((((x[0]'hsz).toNat : Int)) == 48) = false := by
                rw [hx1, beq_eq_false_iff_ne]
                intro h
                apply h48
                apply UInt8.toNat_inj.1
                have : c0.toNat = 48 := by omega
                rw [this]; rfl
              clear hz
              go_wp2_with (go_at_call 62; refine (O1.out _).mono ?_; rintro e w3 ⟨rfl, hb3⟩)
              all_goals first
                | (go_roundw
                   case rel => exact ⟨k + 1, by go_num, by omega, chain hbk hb3, Lib.hid (HX.out.below hb3)⟩
                   case measure => simp [intOf]; omega)
                | (exfalso; simp_all; done)
          · clear hz
            go_wp2_with (go_at_call 62; refine (O1.out _).mono ?_; rintro e w3 ⟨rfl, hb3⟩)
            go_roundw
            case rel => exact ⟨k + 1, by go_num, by omega, chain hbk hb3, Lib.hid (HX.out.below hb3)⟩
            case measure => simp [intOf]; omega
        | false =>
          cases o2 with
          | true =>
            clear hz
            go_wp2_with (go_at_call 62; first | (refine (O1.out _).mono ?_; rintro e w3 ⟨rfl, hb3⟩) | (refine (O2.out _).mono ?_; rintro e w4 ⟨rfl, hb4⟩))
            go_roundw
            case rel => exact ⟨k + 1, by go_num, by omega, chain hbk (chain hb3 hb4), Lib.hid (HX.out.below (chain hb3 hb4))⟩
            case measure => simp [intOf]; omega
          | false =>
            simp at hz
    · have hke : k = xs.length := by omega
      go_wp2
      go_ret
      exact ⟨rfl, hbk⟩
end Go.Proofs.YtekkaknpgdgjjaaGreatDoor.H

/- validateMetadata, and the checks of a prerelease and of metadata as thin functions. -/
namespace Go.Proofs.YtekkaknpgdgjjaaGreatDoor.H
open Go.RowKit Go.Proofs.YtekkaknpgdgjjaaGreatDoorW.PrintWords
set_option linter.unusedVariables false
set_option linter.unusedSimpArgs false

def metaPart (x : ByteArray) : Bool := (x.data.toList != []) && only x allowedB
set_option maxRecDepth 100000 in
set_option maxHeartbeats 4000000 in
theorem metadata_calls (s : ByteArray) (hs : s.size ≤ 2147483647) (hok : ∀ x ∈ (parts 46 s.data.toList).map ba, metaPart x = true) (w : World) :
    Calls Tryz.prog 49 #[.string s] w fun e w' => e = .returned .nilIface ∧ Below w.heap.size w w' := by
  have hu9 := Tryz.underlying9
  have hns : ((parts 46 s.data.toList).map ba).length ≤ 2147483648 := by
    have := parts_length 46 s.data.toList
    rw [← size_eq] at this
    simp; omega
  have C1 := Lib.hid (split_any 46 s hs w)
  generalize (parts 46 s.data.toList).map ba = xs at *
  have HOK := Lib.hid hok
  clear hs hok
  go_enter Tryz.func49, Tryz.ntmps49
  go_wp2_with (go_at_call 61; refine C1.out.mono ?_; rintro e w1 ⟨⟨A, m, rfl, hm, hr⟩, hbb⟩; have HR1 := Lib.hid hr)
  clear hr C1
  go_loopw [10] (fun i wr => ∃ k : Nat, i = .int .i64 k ∧ k ≤ xs.length ∧ Below w.heap.size w wr ∧ Hid (RdS wr A xs)) (fun i _ => xs.length - (intOf i).toNat)
  case atStart => exact ⟨0, rfl, Nat.zero_le _, hbb, HR1⟩
  case round =>
    obtain ⟨k, rfl, hk, hbk, HX⟩ := hrel
    clear HR1 hbb
    by_cases hx : k < xs.length
    · obtain ⟨ad, rfl, hc1⟩ := HX.out k hx
      have hz := HOK.out _ (List.getElem_mem hx)
      obtain ⟨x, hxk⟩ : ∃ x, xs[k] = x := ⟨_, rfl⟩
      rw [hxk] at hc1 hz
      rcases hxl : x.data.toList with _ | ⟨c0, r0⟩
      · obtain rfl : x = ⟨#[]⟩ := eq_of_data (by rw [hxl])
        cases hz
      · have hn1 : ¬ x.data.toList = [] := by rw [hxl]; simp
        have hn2 : ¬ x.toList = [] := by rw [toList_eq]; exact hn1
        have hn3 : ¬ x.data = #[] := fun h => hn1 (by rw [h])
        have hn4 : x.toList.isEmpty = false := by rw [toList_eq, hxl]; rfl
        have hbn : (x.data.toList != []) = true := by rw [hxl]; rfl
        obtain ⟨o2, ho2⟩ : ∃ b, only x allowedB = b := ⟨_, rfl⟩
        have O2 := Lib.hid (fun W => only_calls x allowedB W)
        rw [ho2] at O2
        unfold metaPart at hz
        rw [hbn, ho2, Bool.true_and] at hz
        cases o2 with
        | true =>
          clear hz
          go_wp2_with (go_at_call 62; refine (O2.out _).mono ?_; rintro e w3 ⟨rfl, hb3⟩)
          go_roundw
          case rel => exact ⟨k + 1, by go_num, by omega, chain hbk hb3, Lib.hid (HX.out.below hb3)⟩
          case measure => simp [intOf]; omega
        | false =>
          cases hz
    · go_wp2
      go_ret
      exact ⟨rfl, hbk⟩
end Go.Proofs.YtekkaknpgdgjjaaGreatDoor.H
