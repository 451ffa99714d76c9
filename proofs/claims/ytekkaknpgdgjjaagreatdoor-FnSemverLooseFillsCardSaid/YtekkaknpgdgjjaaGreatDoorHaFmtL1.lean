/- strconv.FormatUint at base 10: the numeral. -/
import Derived.Test.YtekkaknpgdgjjaaGreatDoorHaBaseL1
import Derived.Test.YtekkaknpgdgjjaaGreatDoorBasicL1
import Derived.Lib.AppendIntMem
namespace Go.Proofs.YtekkaknpgdgjjaaGreatDoor.H
open Go.RowKit Go.Sort Go.Lib Go.Proofs.YtekkaknpgdgjjaaGreatDoorW.PrintWords
set_option linter.unusedVariables false
set_option linter.unusedSimpArgs false

/-- The library's table of powers of ten lies in its variable. -/
def GT (w : World) : Prop := Lib.TabIs Tryz.prog w "internal/strconv.uint64pow10" .u64 Lib.pow10Tab
theorem GT.below {w w' : World} (h : GT w) (hb : Below w.heap.size w w') : GT w' := by
  unfold GT TabIs World.var? at *
  cases hg : Tryz.prog.globalNamed "internal/strconv.uint64pow10" with
  | none => simp [hg] at h
  | some g =>
    simp only [hg, Option.bind_some] at h ⊢
    have hlt : g < w.heap.size := by
      rcases Nat.lt_or_ge g w.heap.size with h' | h'
      · exact h'
      · rw [Array.getElem?_eq_none h'] at h; simp at h
    rw [hb.block g hlt]
    exact h
theorem below_grown (w : World) (k : Nat) (os : Array Obj) : Below w.heap.size w (grow (w.drewN k) os) :=
  ⟨rfl, rfl, rfl, by show w.heap.size ≤ (w.heap ++ os).size; rw [Array.size_append]; omega, fun g hg => heap_grow_old w k os g hg⟩

set_option maxRecDepth 100000 in
set_option maxHeartbeats 6400000 in
theorem ifmt_calls (u : Nat) (hu64 : u < 18446744073709551616) (w : World) (htab : GT w) :
    Calls Tryz.prog 50 #[.int .u64 u, .int .i64 10] w fun e w' => e = .returned (.string (ba (Lib.decDigits u))) ∧ Below w.heap.size w w' := by
  have t3 := Tryz.underlying3
  have t9 := Tryz.underlying9
  have t4 := Tryz.underlying4
  have t25 := Tryz.underlying22
  have t29 := Tryz.underlying47
  have t5 := Tryz.underlying5
  have t166 := Tryz.underlying114
  have a166 := Tryz.isAgg114
  have z166 := Tryz.sizeOf114
  have v166 := Tryz.zeroValue114
  by_cases hs : u < 100
  · have hw : IntKind.i64.wrap (u : Int) = (u : Int) := by simp [IntKind.wrap, IntKind.bits, IntKind.signed]; omega
    have hlt : ((u : Int) < 100) := by omega
    go_enter Tryz.func50, Tryz.ntmps50
    go_wp2_with (go_at_call 63; refine (Tryz.internal_strconv_small u hs _).mono ?_; rintro e w' ⟨rfl, rfl⟩)
    go_ret
    exact ⟨rfl, Below.refl _ _⟩
  · have hu1 : 1 ≤ u := by omega
    have hge : ¬ ((u : Int) < 100) := by omega
    have hnd20 : Lib.nDigits u ≤ 20 := by have := Lib.numDigits_eq u hu1 hu64; split at this <;> omega
    have hal : Tryz.prog.arrayLen 114 = 24 := by simp [Program.arrayLen, t166]
    have hsl : ∀ W, (Instr.sliceAt 114 (.pointer (some ⟨w.heap.size, 0, none⟩)) none (some (.int .i64 (Lib.nDigits u : Int))) none).run Tryz.prog W = .ok (.slice (some ⟨w.heap.size, 0, none⟩) (Lib.nDigits u) 24) W := fun W => by
      rw [run_sliceAt_array_h W 114 ⟨w.heap.size, 0, none⟩ (by simp [Program.arrayLen, Program.elem, t166]) .i64 (Lib.nDigits u : Int) (by omega) (by rw [hal]; omega)]
      go_simp
    have hH0 := Lib.holds_zero0 w 114 (Lib.nDigits u) (by omega)
    have hfmt := Tryz.internal_strconv_formatBase10 w.heap.size 0 24 u (Array.replicate (Lib.nDigits u) 0) (w.alloc (.cells Lib.zeros24 114)) hH0 (by rw [Array.size_replicate]; exact Lib.lt_pow_nDigits u) hu64 (by rw [Array.size_replicate]; omega)
    rw [Array.size_replicate] at hfmt
    have HH0 := Lib.hid hH0
    clear hH0 hal
    go_enter Tryz.func50, Tryz.ntmps50
    go_wp2_with (first | (go_at_call 64; refine (Tryz.internal_strconv_numDigits u hu1 hu64 _ (Lib.tabIs_alloc htab _)).mono ?_; rintro e w' ⟨rfl, rfl⟩))
    go_at_call 65
    refine hfmt.mono ?_
    rintro e w' ⟨rfl, k, v', dk, rfl, hF⟩
    have hcv : (convert 47 9 (.slice (some ⟨w.heap.size, 0, none⟩) (Lib.nDigits u) 24)).run Tryz.prog ((putRow (fun (b : UInt8) => Value.int .u8 (b.toNat : Int)) (w.alloc (.cells Lib.zeros24 114)) w.heap.size 0 dk).drewN k) = .ok (.string ⟨(Lib.decDigits u).toArray⟩) ((putRow (fun (b : UInt8) => Value.int .u8 (b.toNat : Int)) (w.alloc (.cells Lib.zeros24 114)) w.heap.size 0 dk).drewN k) := by
      have h := run_convert_bytes_back (P := Tryz.prog) ((putRow (fun (b : UInt8) => Value.int .u8 (b.toNat : Int)) (w.alloc (.cells Lib.zeros24 114)) w.heap.size 0 dk).drewN k) 47 9 5 ⟨w.heap.size, 0, none⟩ 24 (Lib.decDigits u) t29 t5 t9 (fun j hj => by
        rw [Lib.row_is_numeral hF j hj, Lib.add_plain, World.cell?_drewN]
        exact cell?_putRow (fun (b : UInt8) => Value.int .u8 (b.toNat : Int)) _ w.heap.size 0 _ dk HH0.out (by rw [hF.size, Array.size_replicate]) j (by rw [hF.size]; rw [Lib.decDigits_length] at hj; exact hj))
      rw [Lib.decDigits_length] at h
      exact h
    go_wp2
    go_ret
    obtain ⟨os, eo⟩ := Lib.fin_at w (.cells Lib.zeros24 114) dk k 0
    refine ⟨rfl, ?_⟩
    rw [eo]
    exact below_grown w k os

set_option maxRecDepth 100000 in
theorem fmt_calls (a : Int) (h0 : 0 ≤ a) (h1 : a ≤ 18446744073709551615) (w : World) (htab : GT w) :
    Calls Tryz.prog 32 #[.int .u64 a, .int .i64 10] w fun e w' => e = .returned (.string (ba (Lib.decDigits a.toNat))) ∧ Below w.heap.size w w' := by
  obtain ⟨u, rfl⟩ : ∃ u : Nat, a = u := ⟨a.toNat, by omega⟩
  have H := Lib.hid (ifmt_calls u (by omega) w htab)
  rw [Int.toNat_natCast]
  clear htab
  go_enter Tryz.func32, Tryz.ntmps32
  go_wp2_with (go_at_call 50; refine H.out.mono ?_; rintro e w1 ⟨rfl, hb⟩)
  go_ret
  exact ⟨rfl, hb⟩
end Go.Proofs.YtekkaknpgdgjjaaGreatDoor.H
