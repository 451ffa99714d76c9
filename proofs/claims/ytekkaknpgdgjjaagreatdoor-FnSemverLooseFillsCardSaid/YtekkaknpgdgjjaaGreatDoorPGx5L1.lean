-- Written by a program of this session (wip/patch_print.py, after the kit's print), not by hand.
import Derived.Test.YtekkaknpgdgjjaaGreatDoorPGx0L1
import Derived.Test.YtekkaknpgdgjjaaGreatDoorPGx4L1
namespace Go.Proofs.YtekkaknpgdgjjaaGreatDoor.PG
open Go.RowKit Go.Proofs.YtekkaknpgdgjjaaGreatDoorW.PrintWords Go.Proofs.YtekkaknpgdgjjaaGreatDoorW.PrintLast Go.Proofs.YtekkaknpgdgjjaaGreatDoorW.PrintMore
attribute [local go_sem] max2_int min2_int max_two min_two max_three min_three max_four min_four   -- for this text's walks alone
private theorem bsz_ (l : List UInt8) : (⟨l.toArray⟩ : ByteArray).size = l.length := rfl
set_option linter.unusedVariables false
set_option linter.unusedSimpArgs false

/-! ### spec_VersionText: function 10 -/
def spec_VersionText.f (k : Nat) (a0_0 : Int) (a0_1 : Int) (a0_2 : Int) (a0_3 : ByteArray) (a0_4 : ByteArray) : Option (ByteArray) := (spec_Decimal.f k a0_0).bind fun t148 => (if t148.size + 1 ≤ 9223372036854775807 then ((spec_Decimal.f k a0_1).bind fun t149 => (if (t148 ++ (⟨#[46]⟩ : ByteArray)).size + t149.size ≤ 9223372036854775807 then (if ((t148 ++ (⟨#[46]⟩ : ByteArray)) ++ t149).size + 1 ≤ 9223372036854775807 then ((spec_Decimal.f k a0_2).bind fun t150 => (if (((t148 ++ (⟨#[46]⟩ : ByteArray)) ++ t149) ++ (⟨#[46]⟩ : ByteArray)).size + t150.size ≤ 9223372036854775807 then (if a0_3.toList = ([] : List UInt8) then (if a0_4.toList = ([] : List UInt8) then (some ((((t148 ++ (⟨#[46]⟩ : ByteArray)) ++ t149) ++ (⟨#[46]⟩ : ByteArray)) ++ t150)) else (if 1 + a0_4.size ≤ 9223372036854775807 then (if ((((t148 ++ (⟨#[46]⟩ : ByteArray)) ++ t149) ++ (⟨#[46]⟩ : ByteArray)) ++ t150).size + ((⟨#[43]⟩ : ByteArray) ++ a0_4).size ≤ 9223372036854775807 then (some (((((t148 ++ (⟨#[46]⟩ : ByteArray)) ++ t149) ++ (⟨#[46]⟩ : ByteArray)) ++ t150) ++ ((⟨#[43]⟩ : ByteArray) ++ a0_4))) else (none)) else (none))) else (if 1 + a0_3.size ≤ 9223372036854775807 then (if ((((t148 ++ (⟨#[46]⟩ : ByteArray)) ++ t149) ++ (⟨#[46]⟩ : ByteArray)) ++ t150).size + ((⟨#[45]⟩ : ByteArray) ++ a0_3).size ≤ 9223372036854775807 then (if a0_4.toList = ([] : List UInt8) then (some (((((t148 ++ (⟨#[46]⟩ : ByteArray)) ++ t149) ++ (⟨#[46]⟩ : ByteArray)) ++ t150) ++ ((⟨#[45]⟩ : ByteArray) ++ a0_3))) else (if 1 + a0_4.size ≤ 9223372036854775807 then (if (((((t148 ++ (⟨#[46]⟩ : ByteArray)) ++ t149) ++ (⟨#[46]⟩ : ByteArray)) ++ t150) ++ ((⟨#[45]⟩ : ByteArray) ++ a0_3)).size + ((⟨#[43]⟩ : ByteArray) ++ a0_4).size ≤ 9223372036854775807 then (some ((((((t148 ++ (⟨#[46]⟩ : ByteArray)) ++ t149) ++ (⟨#[46]⟩ : ByteArray)) ++ t150) ++ ((⟨#[45]⟩ : ByteArray) ++ a0_3)) ++ ((⟨#[43]⟩ : ByteArray) ++ a0_4))) else (none)) else (none))) else (none)) else (none))) else (none))) else (none)) else (none))) else (none))
theorem spec_VersionText.mono : ∀ a0 a1 a2 a3 a4 k, LeO (spec_VersionText.f k a0 a1 a2 a3 a4) (spec_VersionText.f (k + 1) a0 a1 a2 a3 a4) := by
  intro a0 a1 a2 a3 a4 k
  unfold spec_VersionText.f
  repeat' first
      | (with_reducible exact spec_Decimal.mono _ _)
      | (with_reducible exact LeO.refl _)
      | (with_reducible exact LeO.none _)
      | (with_reducible refine LeO.ite ?_ ?_)
      | (with_reducible refine LeO.bind ?_ (fun _ => ?_))
      | exact spec_Decimal.mono _ _
      | exact LeO.none _
      | refine LeO.ite ?_ ?_
      | refine LeO.bind ?_ (fun _ => ?_)
def spec_VersionText.T1 : Bool × List (List Nat × List Nat) := (true, [([], []), ([0], [0]), ([1], [1]), ([2], [2]), ([], []), ([4], [4]), ([5, 2], [5]), ([3, 6], [3, 6]), ([7], [7]), ([], []), ([9], [9]), ([10, 6], [10]), ([8, 11], [8, 11]), ([12, 11, 0, 1, 2, 3, 4, 5, 6, 7, 8, 9, 10, 11, 12], [12])])
def spec_VersionText.B1 : List Nat := [0, 1, 3, 7, 0, 16, 55, 127, 255, 0, 512, 1655, 4095, 8191]
theorem spec_VersionText.tab1 : rtab .any (opsOf Tryz.f10 1) = spec_VersionText.T1 := by kernel_rfl
theorem spec_VersionText.bits1 : waitsOk spec_VersionText.T1.2 spec_VersionText.B1 = true := by kernel_rfl
set_option maxHeartbeats 8000000 in
set_option maxRecDepth 100000 in
theorem spec_VersionText.calls (k : Nat) (a0_0 : Int) (a0_1 : Int) (a0_2 : Int) (a0_3 : ByteArray) (a0_4 : ByteArray) (r : ByteArray) (w : World) (h : spec_VersionText.f k a0_0 a0_1 a0_2 a0_3 a0_4 = some r) :
    Calls Tryz.prog 10 #[.agg #[.int .u64 a0_0, .int .u64 a0_1, .int .u64 a0_2, .string a0_3, .string a0_4]] w fun e w' => e = .returned (.string r) ∧ Below w.heap.size w w' := by
  have hu24 := Tryz.underlying24
  have HB := Aside0.mk (Below.refl w.heap.size w)
  have H : ((spec_Decimal.f k a0_0).bind fun t148 => (if t148.size + 1 ≤ 9223372036854775807 then ((spec_Decimal.f k a0_1).bind fun t149 => (if (t148 ++ (⟨#[46]⟩ : ByteArray)).size + t149.size ≤ 9223372036854775807 then (if ((t148 ++ (⟨#[46]⟩ : ByteArray)) ++ t149).size + 1 ≤ 9223372036854775807 then ((spec_Decimal.f k a0_2).bind fun t150 => (if (((t148 ++ (⟨#[46]⟩ : ByteArray)) ++ t149) ++ (⟨#[46]⟩ : ByteArray)).size + t150.size ≤ 9223372036854775807 then (if a0_3.toList = ([] : List UInt8) then (if a0_4.toList = ([] : List UInt8) then (some ((((t148 ++ (⟨#[46]⟩ : ByteArray)) ++ t149) ++ (⟨#[46]⟩ : ByteArray)) ++ t150)) else (if 1 + a0_4.size ≤ 9223372036854775807 then (if ((((t148 ++ (⟨#[46]⟩ : ByteArray)) ++ t149) ++ (⟨#[46]⟩ : ByteArray)) ++ t150).size + ((⟨#[43]⟩ : ByteArray) ++ a0_4).size ≤ 9223372036854775807 then (some (((((t148 ++ (⟨#[46]⟩ : ByteArray)) ++ t149) ++ (⟨#[46]⟩ : ByteArray)) ++ t150) ++ ((⟨#[43]⟩ : ByteArray) ++ a0_4))) else (none)) else (none))) else (if 1 + a0_3.size ≤ 9223372036854775807 then (if ((((t148 ++ (⟨#[46]⟩ : ByteArray)) ++ t149) ++ (⟨#[46]⟩ : ByteArray)) ++ t150).size + ((⟨#[45]⟩ : ByteArray) ++ a0_3).size ≤ 9223372036854775807 then (if a0_4.toList = ([] : List UInt8) then (some (((((t148 ++ (⟨#[46]⟩ : ByteArray)) ++ t149) ++ (⟨#[46]⟩ : ByteArray)) ++ t150) ++ ((⟨#[45]⟩ : ByteArray) ++ a0_3))) else (if 1 + a0_4.size ≤ 9223372036854775807 then (if (((((t148 ++ (⟨#[46]⟩ : ByteArray)) ++ t149) ++ (⟨#[46]⟩ : ByteArray)) ++ t150) ++ ((⟨#[45]⟩ : ByteArray) ++ a0_3)).size + ((⟨#[43]⟩ : ByteArray) ++ a0_4).size ≤ 9223372036854775807 then (some ((((((t148 ++ (⟨#[46]⟩ : ByteArray)) ++ t149) ++ (⟨#[46]⟩ : ByteArray)) ++ t150) ++ ((⟨#[45]⟩ : ByteArray) ++ a0_3)) ++ ((⟨#[43]⟩ : ByteArray) ++ a0_4))) else (none)) else (none))) else (none)) else (none))) else (none))) else (none)) else (none))) else (none))) = some r := h
  clear h
  replace H := Option.bind_eq_some_iff.mp H
  obtain ⟨t148, A20, H⟩ := H
  replace H : (if t148.size + 1 ≤ 9223372036854775807 then ((spec_Decimal.f k a0_1).bind fun t149 => (if (t148 ++ (⟨#[46]⟩ : ByteArray)).size + t149.size ≤ 9223372036854775807 then (if ((t148 ++ (⟨#[46]⟩ : ByteArray)) ++ t149).size + 1 ≤ 9223372036854775807 then ((spec_Decimal.f k a0_2).bind fun t150 => (if (((t148 ++ (⟨#[46]⟩ : ByteArray)) ++ t149) ++ (⟨#[46]⟩ : ByteArray)).size + t150.size ≤ 9223372036854775807 then (if a0_3.toList = ([] : List UInt8) then (if a0_4.toList = ([] : List UInt8) then (some ((((t148 ++ (⟨#[46]⟩ : ByteArray)) ++ t149) ++ (⟨#[46]⟩ : ByteArray)) ++ t150)) else (if 1 + a0_4.size ≤ 9223372036854775807 then (if ((((t148 ++ (⟨#[46]⟩ : ByteArray)) ++ t149) ++ (⟨#[46]⟩ : ByteArray)) ++ t150).size + ((⟨#[43]⟩ : ByteArray) ++ a0_4).size ≤ 9223372036854775807 then (some (((((t148 ++ (⟨#[46]⟩ : ByteArray)) ++ t149) ++ (⟨#[46]⟩ : ByteArray)) ++ t150) ++ ((⟨#[43]⟩ : ByteArray) ++ a0_4))) else (none)) else (none))) else (if 1 + a0_3.size ≤ 9223372036854775807 then (if ((((t148 ++ (⟨#[46]⟩ : ByteArray)) ++ t149) ++ (⟨#[46]⟩ : ByteArray)) ++ t150).size + ((⟨#[45]⟩ : ByteArray) ++ a0_3).size ≤ 9223372036854775807 then (if a0_4.toList = ([] : List UInt8) then (some (((((t148 ++ (⟨#[46]⟩ : ByteArray)) ++ t149) ++ (⟨#[46]⟩ : ByteArray)) ++ t150) ++ ((⟨#[45]⟩ : ByteArray) ++ a0_3))) else (if 1 + a0_4.size ≤ 9223372036854775807 then (if (((((t148 ++ (⟨#[46]⟩ : ByteArray)) ++ t149) ++ (⟨#[46]⟩ : ByteArray)) ++ t150) ++ ((⟨#[45]⟩ : ByteArray) ++ a0_3)).size + ((⟨#[43]⟩ : ByteArray) ++ a0_4).size ≤ 9223372036854775807 then (some ((((((t148 ++ (⟨#[46]⟩ : ByteArray)) ++ t149) ++ (⟨#[46]⟩ : ByteArray)) ++ t150) ++ ((⟨#[45]⟩ : ByteArray) ++ a0_3)) ++ ((⟨#[43]⟩ : ByteArray) ++ a0_4))) else (none)) else (none))) else (none)) else (none))) else (none))) else (none)) else (none))) else (none)) = some r := H
  have A2 := Aside0.mk A20
  clear A20
  by_cases c3 : t148.size + 1 ≤ 9223372036854775807
  · rw [if_pos c3] at H
    have c3b0 := eq_true c3
    have c3b1 : decide (t148.size + 1 ≤ 9223372036854775807) = true := decide_eq_true c3
    try have c3b2 : (9223372036854775807 < t148.size + 1) = False := eq_false (Nat.not_lt.2 c3)
    replace H := Option.bind_eq_some_iff.mp H
    obtain ⟨t149, A40, H⟩ := H
    replace H : (if (t148 ++ (⟨#[46]⟩ : ByteArray)).size + t149.size ≤ 9223372036854775807 then (if ((t148 ++ (⟨#[46]⟩ : ByteArray)) ++ t149).size + 1 ≤ 9223372036854775807 then ((spec_Decimal.f k a0_2).bind fun t150 => (if (((t148 ++ (⟨#[46]⟩ : ByteArray)) ++ t149) ++ (⟨#[46]⟩ : ByteArray)).size + t150.size ≤ 9223372036854775807 then (if a0_3.toList = ([] : List UInt8) then (if a0_4.toList = ([] : List UInt8) then (some ((((t148 ++ (⟨#[46]⟩ : ByteArray)) ++ t149) ++ (⟨#[46]⟩ : ByteArray)) ++ t150)) else (if 1 + a0_4.size ≤ 9223372036854775807 then (if ((((t148 ++ (⟨#[46]⟩ : ByteArray)) ++ t149) ++ (⟨#[46]⟩ : ByteArray)) ++ t150).size + ((⟨#[43]⟩ : ByteArray) ++ a0_4).size ≤ 9223372036854775807 then (some (((((t148 ++ (⟨#[46]⟩ : ByteArray)) ++ t149) ++ (⟨#[46]⟩ : ByteArray)) ++ t150) ++ ((⟨#[43]⟩ : ByteArray) ++ a0_4))) else (none)) else (none))) else (if 1 + a0_3.size ≤ 9223372036854775807 then (if ((((t148 ++ (⟨#[46]⟩ : ByteArray)) ++ t149) ++ (⟨#[46]⟩ : ByteArray)) ++ t150).size + ((⟨#[45]⟩ : ByteArray) ++ a0_3).size ≤ 9223372036854775807 then (if a0_4.toList = ([] : List UInt8) then (some (((((t148 ++ (⟨#[46]⟩ : ByteArray)) ++ t149) ++ (⟨#[46]⟩ : ByteArray)) ++ t150) ++ ((⟨#[45]⟩ : ByteArray) ++ a0_3))) else (if 1 + a0_4.size ≤ 9223372036854775807 then (if (((((t148 ++ (⟨#[46]⟩ : ByteArray)) ++ t149) ++ (⟨#[46]⟩ : ByteArray)) ++ t150) ++ ((⟨#[45]⟩ : ByteArray) ++ a0_3)).size + ((⟨#[43]⟩ : ByteArray) ++ a0_4).size ≤ 9223372036854775807 then (some ((((((t148 ++ (⟨#[46]⟩ : ByteArray)) ++ t149) ++ (⟨#[46]⟩ : ByteArray)) ++ t150) ++ ((⟨#[45]⟩ : ByteArray) ++ a0_3)) ++ ((⟨#[43]⟩ : ByteArray) ++ a0_4))) else (none)) else (none))) else (none)) else (none))) else (none))) else (none)) else (none)) = some r := H
    have A4 := Aside0.mk A40
    clear A40
    by_cases c5 : (t148 ++ (⟨#[46]⟩ : ByteArray)).size + t149.size ≤ 9223372036854775807
    · rw [if_pos c5] at H
      have c5b0 := eq_true c5
      have c5b1 : decide ((t148 ++ (⟨#[46]⟩ : ByteArray)).size + t149.size ≤ 9223372036854775807) = true := decide_eq_true c5
      try have c5b2 : (9223372036854775807 < (t148 ++ (⟨#[46]⟩ : ByteArray)).size + t149.size) = False := eq_false (Nat.not_lt.2 c5)
      try have c5b3 := c5b2
      try simp only [ByteArray.size_append, bsz_, List.length_cons, List.length_nil, Nat.zero_add, Nat.reduceAdd] at c5b3
      by_cases c6 : ((t148 ++ (⟨#[46]⟩ : ByteArray)) ++ t149).size + 1 ≤ 9223372036854775807
      · rw [if_pos c6] at H
        have c6b0 := eq_true c6
        have c6b1 : decide (((t148 ++ (⟨#[46]⟩ : ByteArray)) ++ t149).size + 1 ≤ 9223372036854775807) = true := decide_eq_true c6
        try have c6b2 : (9223372036854775807 < ((t148 ++ (⟨#[46]⟩ : ByteArray)) ++ t149).size + 1) = False := eq_false (Nat.not_lt.2 c6)
        try have c6b3 := c6b2
        try simp only [ByteArray.size_append, bsz_, List.length_cons, List.length_nil, Nat.zero_add, Nat.reduceAdd] at c6b3
        replace H := Option.bind_eq_some_iff.mp H
        obtain ⟨t150, A70, H⟩ := H
        replace H : (if (((t148 ++ (⟨#[46]⟩ : ByteArray)) ++ t149) ++ (⟨#[46]⟩ : ByteArray)).size + t150.size ≤ 9223372036854775807 then (if a0_3.toList = ([] : List UInt8) then (if a0_4.toList = ([] : List UInt8) then (some ((((t148 ++ (⟨#[46]⟩ : ByteArray)) ++ t149) ++ (⟨#[46]⟩ : ByteArray)) ++ t150)) else (if 1 + a0_4.size ≤ 9223372036854775807 then (if ((((t148 ++ (⟨#[46]⟩ : ByteArray)) ++ t149) ++ (⟨#[46]⟩ : ByteArray)) ++ t150).size + ((⟨#[43]⟩ : ByteArray) ++ a0_4).size ≤ 9223372036854775807 then (some (((((t148 ++ (⟨#[46]⟩ : ByteArray)) ++ t149) ++ (⟨#[46]⟩ : ByteArray)) ++ t150) ++ ((⟨#[43]⟩ : ByteArray) ++ a0_4))) else (none)) else (none))) else (if 1 + a0_3.size ≤ 9223372036854775807 then (if ((((t148 ++ (⟨#[46]⟩ : ByteArray)) ++ t149) ++ (⟨#[46]⟩ : ByteArray)) ++ t150).size + ((⟨#[45]⟩ : ByteArray) ++ a0_3).size ≤ 9223372036854775807 then (if a0_4.toList = ([] : List UInt8) then (some (((((t148 ++ (⟨#[46]⟩ : ByteArray)) ++ t149) ++ (⟨#[46]⟩ : ByteArray)) ++ t150) ++ ((⟨#[45]⟩ : ByteArray) ++ a0_3))) else (if 1 + a0_4.size ≤ 9223372036854775807 then (if (((((t148 ++ (⟨#[46]⟩ : ByteArray)) ++ t149) ++ (⟨#[46]⟩ : ByteArray)) ++ t150) ++ ((⟨#[45]⟩ : ByteArray) ++ a0_3)).size + ((⟨#[43]⟩ : ByteArray) ++ a0_4).size ≤ 9223372036854775807 then (some ((((((t148 ++ (⟨#[46]⟩ : ByteArray)) ++ t149) ++ (⟨#[46]⟩ : ByteArray)) ++ t150) ++ ((⟨#[45]⟩ : ByteArray) ++ a0_3)) ++ ((⟨#[43]⟩ : ByteArray) ++ a0_4))) else (none)) else (none))) else (none)) else (none))) else (none)) = some r := H
        have A7 := Aside0.mk A70
        clear A70
        by_cases c8 : (((t148 ++ (⟨#[46]⟩ : ByteArray)) ++ t149) ++ (⟨#[46]⟩ : ByteArray)).size + t150.size ≤ 9223372036854775807
        · rw [if_pos c8] at H
          have c8b0 := eq_true c8
          have c8b1 : decide ((((t148 ++ (⟨#[46]⟩ : ByteArray)) ++ t149) ++ (⟨#[46]⟩ : ByteArray)).size + t150.size ≤ 9223372036854775807) = true := decide_eq_true c8
          try have c8b2 : (9223372036854775807 < (((t148 ++ (⟨#[46]⟩ : ByteArray)) ++ t149) ++ (⟨#[46]⟩ : ByteArray)).size + t150.size) = False := eq_false (Nat.not_lt.2 c8)
          try have c8b3 := c8b2
          try simp only [ByteArray.size_append, bsz_, List.length_cons, List.length_nil, Nat.zero_add, Nat.reduceAdd] at c8b3
          by_cases c9 : a0_3.toList = ([] : List UInt8)
          · rw [if_pos c9] at H
            have c9b0 : (a0_3.toList == ([] : List UInt8)) = true := beq_iff_eq.mpr c9
            have c9b1 : (a0_3.toList != ([] : List UInt8)) = false := bne_eq_false_iff_eq.mpr c9
            clear c9
            by_cases c10 : a0_4.toList = ([] : List UInt8)
            · rw [if_pos c10] at H
              have c10b0 : (a0_4.toList == ([] : List UInt8)) = true := beq_iff_eq.mpr c10
              have c10b1 : (a0_4.toList != ([] : List UInt8)) = false := bne_eq_false_iff_eq.mpr c10
              clear c10
              obtain rfl := Option.some.inj H
              go_enter Tryz.func10, Tryz.ntmps10
              try go_wp2_with (first | ((with_reducible refine gate_dst (N := 1) rfl ?_); refine box_event ?hg (N := 1) ?hd (cs := #[.int .u64 a0_0, .int .u64 a0_1, .int .u64 a0_2, .string a0_3, .string a0_4]) (t := 24) ?hr ?_; (case hd => rfl); (case hg => rfl); (case hr => first | (go_simp; done) | (go_simp; rfl) | (go_simp; simp [IntKind.wrap_u8]; done)); intro gb147 hg w11 hbox hb; have n0_ := Aside0.mk (below_step (by repeat (first | (with_reducible first | exact HB.out | apply below_alloc | apply pw_below_drewN | apply below_drew1) | exact HB.out)) hb); have n1_ := Aside0.mk (hbox); have n2_ := Aside0.mk ((by rw [hg]; exact (below_size (by repeat (first | (with_reducible first | exact HB.out | apply below_alloc | apply pw_below_drewN | apply below_drew1) | exact HB.out))) : w.heap.size ≤ gb147)); have n3_ := Aside0.mk ((by rw [hg]; exact (below_size (by repeat (first | (with_reducible first | exact HB.out | apply below_alloc | apply pw_below_drewN | apply below_drew1) | exact HB.out))) : w.heap.size ≤ gb147)); clear HB; have HB := n0_; have BK147 := n1_; have GW147 := n2_; have GE147 := n3_; clear n0_ n1_ n2_ n3_; clear hb hbox hg))
              have n0_ := Aside0.mk (blk_drew BK147.out)
              have n1_ := Aside0.mk (below_drew1 HB.out)
              clear BK147
              clear HB
              have BK147 := n0_
              have HB := n1_
              clear n0_ n1_
              refine start_ (n := 14) (S := fun w' => w'.cell? ⟨gb147, 0, none⟩ = some (.int .u64 a0_0) ∧ w'.cell? ⟨gb147, 1, none⟩ = some (.int .u64 a0_1) ∧ w'.cell? ⟨gb147, 2, none⟩ = some (.int .u64 a0_2) ∧ w'.cell? ⟨gb147, 3, none⟩ = some (.string a0_3) ∧ w'.cell? ⟨gb147, 4, none⟩ = some (.string a0_4)) (ds := []) #[false, false, false, false, false, false, false, false, false, false, false, false, false, false] (by kernel_rfl) rfl rfl ⟨(blk_cell BK147.out 0).trans rfl, (blk_cell BK147.out 1).trans rfl, (blk_cell BK147.out 2).trans rfl, (blk_cell BK147.out 3).trans rfl, (blk_cell BK147.out 4).trans rfl⟩ (fun hHeld => ?_); refine with_tabW spec_VersionText.tab1 spec_VersionText.bits1 (fun HT_ HW_ => ?_)
              generalize w11.drew = w12 at BK147 HB hHeld ⊢
              refine pure_ (i := 0) (N := some 4) (v := ?_) (a' := ?_) #[true, false, false, false, false, false, false, false, false, false, false, false, false, false] rfl rfl (any_of HT_.out (by kernel_rfl)) (fun _ _ _ h => h) (Or.inl ⟨by rfl, ?_⟩) ?_ ?_
              rotate_left
              · intro w'
                go_simp
                with_reducible rfl
              rotate_left
              · simp only [Act.put, List.setIfInBounds_toArray, List.set_cons_zero, List.set_cons_succ, i64_w, i32_w]
                rfl
              refine pure_ (i := 4) (N := some 8) (v := ?_) (a' := ?_) #[true, false, false, false, true, false, false, false, false, false, false, false, false, false] rfl rfl (any_of HT_.out (by kernel_rfl)) (fun _ _ _ h => h) (Or.inl ⟨by rfl, ?_⟩) ?_ ?_
              rotate_left
              · intro w'
                go_simp
                with_reducible rfl
              rotate_left
              · simp only [Act.put, List.setIfInBounds_toArray, List.set_cons_zero, List.set_cons_succ, i64_w, i32_w]
                rfl
              refine pure_ (i := 9) (N := some 13) (v := ?_) (a' := ?_) #[true, false, false, false, true, false, false, false, false, true, false, false, false, false] rfl rfl (any_of HT_.out (by kernel_rfl)) (fun _ _ _ h => h) (Or.inl ⟨by rfl, ?_⟩) ?_ ?_
              rotate_left
              · intro w'
                go_simp
                with_reducible rfl
              rotate_left
              · simp only [Act.put, List.setIfInBounds_toArray, List.set_cons_zero, List.set_cons_succ, i64_w, i32_w]
                rfl
              refine take_ (i := 1) (N := some 5) (v := ?_) (a' := ?_) #[true, true, false, false, true, false, false, false, false, true, false, false, false, false] rfl rfl (take_ofW HT_.out HW_.out (by kernel_rfl)) (fun _ _ _ h => h) (Or.inl ⟨by rfl, ?_⟩) hHeld ?_ ?_
              rotate_left
              · rintro w' ⟨s0, s1, s2, s3, s4⟩
                go_simp
                with_reducible rfl
              rotate_left
              · simp only [Act.put, List.setIfInBounds_toArray, List.set_cons_zero, List.set_cons_succ, i64_w, i32_w]
                rfl
              refine take_ (i := 5) (N := some 9) (v := ?_) (a' := ?_) #[true, true, false, false, true, true, false, false, false, true, false, false, false, false] rfl rfl (take_ofW HT_.out HW_.out (by kernel_rfl)) (fun _ _ _ h => h) (Or.inl ⟨by rfl, ?_⟩) hHeld ?_ ?_
              rotate_left
              · rintro w' ⟨s0, s1, s2, s3, s4⟩
                go_simp
                with_reducible rfl
              rotate_left
              · simp only [Act.put, List.setIfInBounds_toArray, List.set_cons_zero, List.set_cons_succ, i64_w, i32_w]
                rfl
              refine take_ (i := 10) (N := some 14) (v := ?_) (a' := ?_) #[true, true, false, false, true, true, false, false, false, true, true, false, false, false] rfl rfl (take_ofW HT_.out HW_.out (by kernel_rfl)) (fun _ _ _ h => h) (Or.inl ⟨by rfl, ?_⟩) hHeld ?_ ?_
              rotate_left
              · rintro w' ⟨s0, s1, s2, s3, s4⟩
                go_simp
                with_reducible rfl
              rotate_left
              · simp only [Act.put, List.setIfInBounds_toArray, List.set_cons_zero, List.set_cons_succ, i64_w, i32_w]
                rfl
              refine one_ (i := 2) (N := some 6) #[true, true, true, false, true, true, false, false, false, true, true, false, false, false] rfl rfl (one_of HT_.out (by kernel_rfl)) (by decide) (fun K hK => ?_)
              refine goes_ Tryz.func7 (by kernel_rfl) rfl #[.int .u64 a0_0] (by rfl) rfl rfl (by (try simp only [List.map_toArray, List.map_cons, List.map_nil]); first | done | rfl | (simp only [List.length_drop, List.length_take]; rfl)) ?_
              with_reducible refine (spec_Decimal.calls k a0_0 t148 _ A2.out).mono ?_
              rintro e w13 ⟨rfl, hb⟩
              refine ⟨_, rfl, ?_⟩
              have n0_ := Aside0.mk (blk_below (g := gb147) (o := .cells #[.int .u64 a0_0, .int .u64 a0_1, .int .u64 a0_2, .string a0_3, .string a0_4] 24 (0, 0)) (by (with_reducible repeat (first | refine blk_drewN ?_ _ | refine blk_drew ?_ | refine blk_alloc ?_ _)); exact BK147.out) hb)
              have n1_ := Aside0.mk (below_step (by repeat (first | (with_reducible first | exact HB.out | apply below_alloc | apply pw_below_drewN | apply below_drew1 | refine below_set ?_ GE147.out) | exact HB.out)) hb)
              clear BK147
              clear HB
              have BK147 := n0_
              have HB := n1_
              clear n0_ n1_
              (try clear hb)
              (try clear hb2)
              (try clear hk)
              (try clear hi)
              refine hK.out _ _ ⟨(blk_cell BK147.out 0).trans rfl, (blk_cell BK147.out 1).trans rfl, (blk_cell BK147.out 2).trans rfl, (blk_cell BK147.out 3).trans rfl, (blk_cell BK147.out 4).trans rfl⟩ (fun hHeld => ?_)
              clear hK K
              refine norm_ (a' := ?_) ?_ ?_
              rotate_left
              · show Act.put _ (some 6) _ = _
                simp only [Act.put, List.setIfInBounds_toArray, List.set_cons_zero, List.set_cons_succ, i64_w, i32_w]
                rfl
              refine pure_ (i := 3) (N := some 7) (v := ?_) (a' := ?_) #[true, true, true, true, true, true, false, false, false, true, true, false, false, false] rfl rfl (any_of HT_.out (by kernel_rfl)) (fun _ _ _ h => h) (Or.inl ⟨by rfl, ?_⟩) ?_ ?_
              rotate_left
              · intro w'
                go_simp
                with_reducible rfl
              rotate_left
              · simp only [Act.put, List.setIfInBounds_toArray, List.set_cons_zero, List.set_cons_succ, i64_w, i32_w]
                rfl
              refine one_ (i := 6) (N := some 10) #[true, true, true, true, true, true, true, false, false, true, true, false, false, false] rfl rfl (one_of HT_.out (by kernel_rfl)) (by decide) (fun K hK => ?_)
              refine goes_ Tryz.func7 (by kernel_rfl) rfl #[.int .u64 a0_1] (by rfl) rfl rfl (by (try simp only [List.map_toArray, List.map_cons, List.map_nil]); first | done | rfl | (simp only [List.length_drop, List.length_take]; rfl)) ?_
              with_reducible refine (spec_Decimal.calls k a0_1 t149 _ A4.out).mono ?_
              rintro e w14 ⟨rfl, hb⟩
              refine ⟨_, rfl, ?_⟩
              have n0_ := Aside0.mk (blk_below (g := gb147) (o := .cells #[.int .u64 a0_0, .int .u64 a0_1, .int .u64 a0_2, .string a0_3, .string a0_4] 24 (0, 0)) (by (with_reducible repeat (first | refine blk_drewN ?_ _ | refine blk_drew ?_ | refine blk_alloc ?_ _)); exact BK147.out) hb)
              have n1_ := Aside0.mk (below_step (by repeat (first | (with_reducible first | exact HB.out | apply below_alloc | apply pw_below_drewN | apply below_drew1 | refine below_set ?_ GE147.out) | exact HB.out)) hb)
              clear BK147
              clear HB
              have BK147 := n0_
              have HB := n1_
              clear n0_ n1_
              (try clear hb)
              (try clear hb2)
              (try clear hk)
              (try clear hi)
              refine hK.out _ _ ⟨(blk_cell BK147.out 0).trans rfl, (blk_cell BK147.out 1).trans rfl, (blk_cell BK147.out 2).trans rfl, (blk_cell BK147.out 3).trans rfl, (blk_cell BK147.out 4).trans rfl⟩ (fun hHeld => ?_)
              clear hK K
              refine norm_ (a' := ?_) ?_ ?_
              rotate_left
              · show Act.put _ (some 10) _ = _
                simp only [Act.put, List.setIfInBounds_toArray, List.set_cons_zero, List.set_cons_succ, i64_w, i32_w]
                rfl
              refine pure_ (i := 7) (N := some 11) (v := ?_) (a' := ?_) #[true, true, true, true, true, true, true, true, false, true, true, false, false, false] rfl rfl (any_of HT_.out (by kernel_rfl)) (fun _ _ _ h => h) (Or.inl ⟨by rfl, ?_⟩) ?_ ?_
              rotate_left
              · intro w'
                go_simp
                with_reducible rfl
              rotate_left
              · simp only [Act.put, List.setIfInBounds_toArray, List.set_cons_zero, List.set_cons_succ, i64_w, i32_w]
                rfl
              refine pure_ (i := 8) (N := some 12) (v := ?_) (a' := ?_) #[true, true, true, true, true, true, true, true, true, true, true, false, false, false] rfl rfl (any_of HT_.out (by kernel_rfl)) (fun _ _ _ h => h) (Or.inl ⟨by rfl, ?_⟩) ?_ ?_
              rotate_left
              · intro w'
                go_simp
                with_reducible rfl
              rotate_left
              · simp only [Act.put, List.setIfInBounds_toArray, List.set_cons_zero, List.set_cons_succ, i64_w, i32_w]
                rfl
              refine one_ (i := 11) (N := some 15) #[true, true, true, true, true, true, true, true, true, true, true, true, false, false] rfl rfl (one_of HT_.out (by kernel_rfl)) (by decide) (fun K hK => ?_)
              refine goes_ Tryz.func7 (by kernel_rfl) rfl #[.int .u64 a0_2] (by rfl) rfl rfl (by (try simp only [List.map_toArray, List.map_cons, List.map_nil]); first | done | rfl | (simp only [List.length_drop, List.length_take]; rfl)) ?_
              with_reducible refine (spec_Decimal.calls k a0_2 t150 _ A7.out).mono ?_
              rintro e w15 ⟨rfl, hb⟩
              refine ⟨_, rfl, ?_⟩
              have n0_ := Aside0.mk (blk_below (g := gb147) (o := .cells #[.int .u64 a0_0, .int .u64 a0_1, .int .u64 a0_2, .string a0_3, .string a0_4] 24 (0, 0)) (by (with_reducible repeat (first | refine blk_drewN ?_ _ | refine blk_drew ?_ | refine blk_alloc ?_ _)); exact BK147.out) hb)
              have n1_ := Aside0.mk (below_step (by repeat (first | (with_reducible first | exact HB.out | apply below_alloc | apply pw_below_drewN | apply below_drew1 | refine below_set ?_ GE147.out) | exact HB.out)) hb)
              clear BK147
              clear HB
              have BK147 := n0_
              have HB := n1_
              clear n0_ n1_
              (try clear hb)
              (try clear hb2)
              (try clear hk)
              (try clear hi)
              refine hK.out _ _ ⟨(blk_cell BK147.out 0).trans rfl, (blk_cell BK147.out 1).trans rfl, (blk_cell BK147.out 2).trans rfl, (blk_cell BK147.out 3).trans rfl, (blk_cell BK147.out 4).trans rfl⟩ (fun hHeld => ?_)
              clear hK K
              refine norm_ (a' := ?_) ?_ ?_
              rotate_left
              · show Act.put _ (some 15) _ = _
                simp only [Act.put, List.setIfInBounds_toArray, List.set_cons_zero, List.set_cons_succ, i64_w, i32_w]
                rfl
              refine pure_ (i := 12) (N := some 16) (v := ?_) (a' := ?_) #[true, true, true, true, true, true, true, true, true, true, true, true, true, false] rfl rfl (any_of HT_.out (by kernel_rfl)) (fun _ _ _ h => h) (Or.inl ⟨by rfl, ?_⟩) ?_ ?_
              rotate_left
              · intro w'
                go_simp
                with_reducible rfl
              rotate_left
              · simp only [Act.put, List.setIfInBounds_toArray, List.set_cons_zero, List.set_cons_succ, i64_w, i32_w]
                rfl
              refine pure_ (i := 13) (N := some 3) (v := ?_) (a' := ?_) #[true, true, true, true, true, true, true, true, true, true, true, true, true, true] rfl rfl (any_of HT_.out (by kernel_rfl)) (fun _ _ _ h => h) (Or.inl ⟨by rfl, ?_⟩) ?_ ?_
              rotate_left
              · intro w'
                go_simp
                with_reducible rfl
              rotate_left
              · simp only [Act.put, List.setIfInBounds_toArray, List.set_cons_zero, List.set_cons_succ, i64_w, i32_w]
                rfl
              refine done_ (done_of HT_.out (by kernel_rfl)) ?_
              have hcz16_0 : w15.cell? ⟨gb147, 0, none⟩ = some (.int .u64 a0_0) := (blk_cell BK147.out 0).trans rfl
              have hcz16_1 : w15.cell? ⟨gb147, 1, none⟩ = some (.int .u64 a0_1) := (blk_cell BK147.out 1).trans rfl
              have hcz16_2 : w15.cell? ⟨gb147, 2, none⟩ = some (.int .u64 a0_2) := (blk_cell BK147.out 2).trans rfl
              have hcz16_3 : w15.cell? ⟨gb147, 3, none⟩ = some (.string a0_3) := (blk_cell BK147.out 3).trans rfl
              have hcz16_4 : w15.cell? ⟨gb147, 4, none⟩ = some (.string a0_4) := (blk_cell BK147.out 4).trans rfl
              have hfz16_0 := blk_frozen BK147.out 0
              have hfz16_1 := blk_frozen BK147.out 1
              have hfz16_2 := blk_frozen BK147.out 2
              have hfz16_3 := blk_frozen BK147.out 3
              have hfz16_4 := blk_frozen BK147.out 4
              try go_wp2
              go_ret
              exact ⟨by first | rfl | (simp [nbn]; done) | (simp [errW_none, errW_some] <;> rfl) | (simp [*, errW_none, errW_some] <;> rfl), by repeat (first | (with_reducible first | exact HB.out | apply below_alloc | apply pw_below_drewN | apply below_drew1 | refine below_set ?_ GE147.out) | exact HB.out)⟩
            · rw [if_neg c10] at H
              have c10b0 : (a0_4.toList == ([] : List UInt8)) = false := beq_eq_false_iff_ne.mpr c10
              have c10b1 : (a0_4.toList != ([] : List UInt8)) = true := bne_iff_ne.mpr c10
              by_cases c17 : 1 + a0_4.size ≤ 9223372036854775807
              · rw [if_pos c17] at H
                have c17b0 := eq_true c17
                have c17b1 : decide (1 + a0_4.size ≤ 9223372036854775807) = true := decide_eq_true c17
                try have c17b2 : (9223372036854775807 < 1 + a0_4.size) = False := eq_false (Nat.not_lt.2 c17)
                by_cases c18 : ((((t148 ++ (⟨#[46]⟩ : ByteArray)) ++ t149) ++ (⟨#[46]⟩ : ByteArray)) ++ t150).size + ((⟨#[43]⟩ : ByteArray) ++ a0_4).size ≤ 9223372036854775807
                · rw [if_pos c18] at H
                  have c18b0 := eq_true c18
                  have c18b1 : decide (((((t148 ++ (⟨#[46]⟩ : ByteArray)) ++ t149) ++ (⟨#[46]⟩ : ByteArray)) ++ t150).size + ((⟨#[43]⟩ : ByteArray) ++ a0_4).size ≤ 9223372036854775807) = true := decide_eq_true c18
                  try have c18b2 : (9223372036854775807 < ((((t148 ++ (⟨#[46]⟩ : ByteArray)) ++ t149) ++ (⟨#[46]⟩ : ByteArray)) ++ t150).size + ((⟨#[43]⟩ : ByteArray) ++ a0_4).size) = False := eq_false (Nat.not_lt.2 c18)
                  try have c18b3 := c18b2
                  try simp only [ByteArray.size_append, bsz_, List.length_cons, List.length_nil, Nat.zero_add, Nat.reduceAdd] at c18b3
                  obtain rfl := Option.some.inj H
                  go_enter Tryz.func10, Tryz.ntmps10
                  try go_wp2_with (first | ((with_reducible refine gate_dst (N := 1) rfl ?_); refine box_event ?hg (N := 1) ?hd (cs := #[.int .u64 a0_0, .int .u64 a0_1, .int .u64 a0_2, .string a0_3, .string a0_4]) (t := 24) ?hr ?_; (case hd => rfl); (case hg => rfl); (case hr => first | (go_simp; done) | (go_simp; rfl) | (go_simp; simp [IntKind.wrap_u8]; done)); intro gb147 hg w19 hbox hb; have n0_ := Aside0.mk (below_step (by repeat (first | (with_reducible first | exact HB.out | apply below_alloc | apply pw_below_drewN | apply below_drew1) | exact HB.out)) hb); have n1_ := Aside0.mk (hbox); have n2_ := Aside0.mk ((by rw [hg]; exact (below_size (by repeat (first | (with_reducible first | exact HB.out | apply below_alloc | apply pw_below_drewN | apply below_drew1) | exact HB.out))) : w.heap.size ≤ gb147)); have n3_ := Aside0.mk ((by rw [hg]; exact (below_size (by repeat (first | (with_reducible first | exact HB.out | apply below_alloc | apply pw_below_drewN | apply below_drew1) | exact HB.out))) : w.heap.size ≤ gb147)); clear HB; have HB := n0_; have BK147 := n1_; have GW147 := n2_; have GE147 := n3_; clear n0_ n1_ n2_ n3_; clear hb hbox hg))
                  have n0_ := Aside0.mk (blk_drew BK147.out)
                  have n1_ := Aside0.mk (below_drew1 HB.out)
                  clear BK147
                  clear HB
                  have BK147 := n0_
                  have HB := n1_
                  clear n0_ n1_
                  refine start_ (n := 14) (S := fun w' => w'.cell? ⟨gb147, 0, none⟩ = some (.int .u64 a0_0) ∧ w'.cell? ⟨gb147, 1, none⟩ = some (.int .u64 a0_1) ∧ w'.cell? ⟨gb147, 2, none⟩ = some (.int .u64 a0_2) ∧ w'.cell? ⟨gb147, 3, none⟩ = some (.string a0_3) ∧ w'.cell? ⟨gb147, 4, none⟩ = some (.string a0_4)) (ds := []) #[false, false, false, false, false, false, false, false, false, false, false, false, false, false] (by kernel_rfl) rfl rfl ⟨(blk_cell BK147.out 0).trans rfl, (blk_cell BK147.out 1).trans rfl, (blk_cell BK147.out 2).trans rfl, (blk_cell BK147.out 3).trans rfl, (blk_cell BK147.out 4).trans rfl⟩ (fun hHeld => ?_); refine with_tabW spec_VersionText.tab1 spec_VersionText.bits1 (fun HT_ HW_ => ?_)
                  generalize w19.drew = w20 at BK147 HB hHeld ⊢
                  refine pure_ (i := 0) (N := some 4) (v := ?_) (a' := ?_) #[true, false, false, false, false, false, false, false, false, false, false, false, false, false] rfl rfl (any_of HT_.out (by kernel_rfl)) (fun _ _ _ h => h) (Or.inl ⟨by rfl, ?_⟩) ?_ ?_
                  rotate_left
                  · intro w'
                    go_simp
                    with_reducible rfl
                  rotate_left
                  · simp only [Act.put, List.setIfInBounds_toArray, List.set_cons_zero, List.set_cons_succ, i64_w, i32_w]
                    rfl
                  refine pure_ (i := 4) (N := some 8) (v := ?_) (a' := ?_) #[true, false, false, false, true, false, false, false, false, false, false, false, false, false] rfl rfl (any_of HT_.out (by kernel_rfl)) (fun _ _ _ h => h) (Or.inl ⟨by rfl, ?_⟩) ?_ ?_
                  rotate_left
                  · intro w'
                    go_simp
                    with_reducible rfl
                  rotate_left
                  · simp only [Act.put, List.setIfInBounds_toArray, List.set_cons_zero, List.set_cons_succ, i64_w, i32_w]
                    rfl
                  refine pure_ (i := 9) (N := some 13) (v := ?_) (a' := ?_) #[true, false, false, false, true, false, false, false, false, true, false, false, false, false] rfl rfl (any_of HT_.out (by kernel_rfl)) (fun _ _ _ h => h) (Or.inl ⟨by rfl, ?_⟩) ?_ ?_
                  rotate_left
                  · intro w'
                    go_simp
                    with_reducible rfl
                  rotate_left
                  · simp only [Act.put, List.setIfInBounds_toArray, List.set_cons_zero, List.set_cons_succ, i64_w, i32_w]
                    rfl
                  refine take_ (i := 1) (N := some 5) (v := ?_) (a' := ?_) #[true, true, false, false, true, false, false, false, false, true, false, false, false, false] rfl rfl (take_ofW HT_.out HW_.out (by kernel_rfl)) (fun _ _ _ h => h) (Or.inl ⟨by rfl, ?_⟩) hHeld ?_ ?_
                  rotate_left
                  · rintro w' ⟨s0, s1, s2, s3, s4⟩
                    go_simp
                    with_reducible rfl
                  rotate_left
                  · simp only [Act.put, List.setIfInBounds_toArray, List.set_cons_zero, List.set_cons_succ, i64_w, i32_w]
                    rfl
                  refine take_ (i := 5) (N := some 9) (v := ?_) (a' := ?_) #[true, true, false, false, true, true, false, false, false, true, false, false, false, false] rfl rfl (take_ofW HT_.out HW_.out (by kernel_rfl)) (fun _ _ _ h => h) (Or.inl ⟨by rfl, ?_⟩) hHeld ?_ ?_
                  rotate_left
                  · rintro w' ⟨s0, s1, s2, s3, s4⟩
                    go_simp
                    with_reducible rfl
                  rotate_left
                  · simp only [Act.put, List.setIfInBounds_toArray, List.set_cons_zero, List.set_cons_succ, i64_w, i32_w]
                    rfl
                  refine take_ (i := 10) (N := some 14) (v := ?_) (a' := ?_) #[true, true, false, false, true, true, false, false, false, true, true, false, false, false] rfl rfl (take_ofW HT_.out HW_.out (by kernel_rfl)) (fun _ _ _ h => h) (Or.inl ⟨by rfl, ?_⟩) hHeld ?_ ?_
                  rotate_left
                  · rintro w' ⟨s0, s1, s2, s3, s4⟩
                    go_simp
                    with_reducible rfl
                  rotate_left
                  · simp only [Act.put, List.setIfInBounds_toArray, List.set_cons_zero, List.set_cons_succ, i64_w, i32_w]
                    rfl
                  refine one_ (i := 2) (N := some 6) #[true, true, true, false, true, true, false, false, false, true, true, false, false, false] rfl rfl (one_of HT_.out (by kernel_rfl)) (by decide) (fun K hK => ?_)
                  refine goes_ Tryz.func7 (by kernel_rfl) rfl #[.int .u64 a0_0] (by rfl) rfl rfl (by (try simp only [List.map_toArray, List.map_cons, List.map_nil]); first | done | rfl | (simp only [List.length_drop, List.length_take]; rfl)) ?_
                  with_reducible refine (spec_Decimal.calls k a0_0 t148 _ A2.out).mono ?_
                  rintro e w21 ⟨rfl, hb⟩
                  refine ⟨_, rfl, ?_⟩
                  have n0_ := Aside0.mk (blk_below (g := gb147) (o := .cells #[.int .u64 a0_0, .int .u64 a0_1, .int .u64 a0_2, .string a0_3, .string a0_4] 24 (0, 0)) (by (with_reducible repeat (first | refine blk_drewN ?_ _ | refine blk_drew ?_ | refine blk_alloc ?_ _)); exact BK147.out) hb)
                  have n1_ := Aside0.mk (below_step (by repeat (first | (with_reducible first | exact HB.out | apply below_alloc | apply pw_below_drewN | apply below_drew1 | refine below_set ?_ GE147.out) | exact HB.out)) hb)
                  clear BK147
                  clear HB
                  have BK147 := n0_
                  have HB := n1_
                  clear n0_ n1_
                  (try clear hb)
                  (try clear hb2)
                  (try clear hk)
                  (try clear hi)
                  refine hK.out _ _ ⟨(blk_cell BK147.out 0).trans rfl, (blk_cell BK147.out 1).trans rfl, (blk_cell BK147.out 2).trans rfl, (blk_cell BK147.out 3).trans rfl, (blk_cell BK147.out 4).trans rfl⟩ (fun hHeld => ?_)
                  clear hK K
                  refine norm_ (a' := ?_) ?_ ?_
                  rotate_left
                  · show Act.put _ (some 6) _ = _
                    simp only [Act.put, List.setIfInBounds_toArray, List.set_cons_zero, List.set_cons_succ, i64_w, i32_w]
                    rfl
                  refine pure_ (i := 3) (N := some 7) (v := ?_) (a' := ?_) #[true, true, true, true, true, true, false, false, false, true, true, false, false, false] rfl rfl (any_of HT_.out (by kernel_rfl)) (fun _ _ _ h => h) (Or.inl ⟨by rfl, ?_⟩) ?_ ?_
                  rotate_left
                  · intro w'
                    go_simp
                    with_reducible rfl
                  rotate_left
                  · simp only [Act.put, List.setIfInBounds_toArray, List.set_cons_zero, List.set_cons_succ, i64_w, i32_w]
                    rfl
                  refine one_ (i := 6) (N := some 10) #[true, true, true, true, true, true, true, false, false, true, true, false, false, false] rfl rfl (one_of HT_.out (by kernel_rfl)) (by decide) (fun K hK => ?_)
                  refine goes_ Tryz.func7 (by kernel_rfl) rfl #[.int .u64 a0_1] (by rfl) rfl rfl (by (try simp only [List.map_toArray, List.map_cons, List.map_nil]); first | done | rfl | (simp only [List.length_drop, List.length_take]; rfl)) ?_
                  with_reducible refine (spec_Decimal.calls k a0_1 t149 _ A4.out).mono ?_
                  rintro e w22 ⟨rfl, hb⟩
                  refine ⟨_, rfl, ?_⟩
                  have n0_ := Aside0.mk (blk_below (g := gb147) (o := .cells #[.int .u64 a0_0, .int .u64 a0_1, .int .u64 a0_2, .string a0_3, .string a0_4] 24 (0, 0)) (by (with_reducible repeat (first | refine blk_drewN ?_ _ | refine blk_drew ?_ | refine blk_alloc ?_ _)); exact BK147.out) hb)
                  have n1_ := Aside0.mk (below_step (by repeat (first | (with_reducible first | exact HB.out | apply below_alloc | apply pw_below_drewN | apply below_drew1 | refine below_set ?_ GE147.out) | exact HB.out)) hb)
                  clear BK147
                  clear HB
                  have BK147 := n0_
                  have HB := n1_
                  clear n0_ n1_
                  (try clear hb)
                  (try clear hb2)
                  (try clear hk)
                  (try clear hi)
                  refine hK.out _ _ ⟨(blk_cell BK147.out 0).trans rfl, (blk_cell BK147.out 1).trans rfl, (blk_cell BK147.out 2).trans rfl, (blk_cell BK147.out 3).trans rfl, (blk_cell BK147.out 4).trans rfl⟩ (fun hHeld => ?_)
                  clear hK K
                  refine norm_ (a' := ?_) ?_ ?_
                  rotate_left
                  · show Act.put _ (some 10) _ = _
                    simp only [Act.put, List.setIfInBounds_toArray, List.set_cons_zero, List.set_cons_succ, i64_w, i32_w]
                    rfl
                  refine pure_ (i := 7) (N := some 11) (v := ?_) (a' := ?_) #[true, true, true, true, true, true, true, true, false, true, true, false, false, false] rfl rfl (any_of HT_.out (by kernel_rfl)) (fun _ _ _ h => h) (Or.inl ⟨by rfl, ?_⟩) ?_ ?_
                  rotate_left
                  · intro w'
                    go_simp
                    with_reducible rfl
                  rotate_left
                  · simp only [Act.put, List.setIfInBounds_toArray, List.set_cons_zero, List.set_cons_succ, i64_w, i32_w]
                    rfl
                  refine pure_ (i := 8) (N := some 12) (v := ?_) (a' := ?_) #[true, true, true, true, true, true, true, true, true, true, true, false, false, false] rfl rfl (any_of HT_.out (by kernel_rfl)) (fun _ _ _ h => h) (Or.inl ⟨by rfl, ?_⟩) ?_ ?_
                  rotate_left
                  · intro w'
                    go_simp
                    with_reducible rfl
                  rotate_left
                  · simp only [Act.put, List.setIfInBounds_toArray, List.set_cons_zero, List.set_cons_succ, i64_w, i32_w]
                    rfl
                  refine one_ (i := 11) (N := some 15) #[true, true, true, true, true, true, true, true, true, true, true, true, false, false] rfl rfl (one_of HT_.out (by kernel_rfl)) (by decide) (fun K hK => ?_)
                  refine goes_ Tryz.func7 (by kernel_rfl) rfl #[.int .u64 a0_2] (by rfl) rfl rfl (by (try simp only [List.map_toArray, List.map_cons, List.map_nil]); first | done | rfl | (simp only [List.length_drop, List.length_take]; rfl)) ?_
                  with_reducible refine (spec_Decimal.calls k a0_2 t150 _ A7.out).mono ?_
                  rintro e w23 ⟨rfl, hb⟩
                  refine ⟨_, rfl, ?_⟩
                  have n0_ := Aside0.mk (blk_below (g := gb147) (o := .cells #[.int .u64 a0_0, .int .u64 a0_1, .int .u64 a0_2, .string a0_3, .string a0_4] 24 (0, 0)) (by (with_reducible repeat (first | refine blk_drewN ?_ _ | refine blk_drew ?_ | refine blk_alloc ?_ _)); exact BK147.out) hb)
                  have n1_ := Aside0.mk (below_step (by repeat (first | (with_reducible first | exact HB.out | apply below_alloc | apply pw_below_drewN | apply below_drew1 | refine below_set ?_ GE147.out) | exact HB.out)) hb)
                  clear BK147
                  clear HB
                  have BK147 := n0_
                  have HB := n1_
                  clear n0_ n1_
                  (try clear hb)
                  (try clear hb2)
                  (try clear hk)
                  (try clear hi)
                  refine hK.out _ _ ⟨(blk_cell BK147.out 0).trans rfl, (blk_cell BK147.out 1).trans rfl, (blk_cell BK147.out 2).trans rfl, (blk_cell BK147.out 3).trans rfl, (blk_cell BK147.out 4).trans rfl⟩ (fun hHeld => ?_)
                  clear hK K
                  refine norm_ (a' := ?_) ?_ ?_
                  rotate_left
                  · show Act.put _ (some 15) _ = _
                    simp only [Act.put, List.setIfInBounds_toArray, List.set_cons_zero, List.set_cons_succ, i64_w, i32_w]
                    rfl
                  refine pure_ (i := 12) (N := some 16) (v := ?_) (a' := ?_) #[true, true, true, true, true, true, true, true, true, true, true, true, true, false] rfl rfl (any_of HT_.out (by kernel_rfl)) (fun _ _ _ h => h) (Or.inl ⟨by rfl, ?_⟩) ?_ ?_
                  rotate_left
                  · intro w'
                    go_simp
                    with_reducible rfl
                  rotate_left
                  · simp only [Act.put, List.setIfInBounds_toArray, List.set_cons_zero, List.set_cons_succ, i64_w, i32_w]
                    rfl
                  refine pure_ (i := 13) (N := some 3) (v := ?_) (a' := ?_) #[true, true, true, true, true, true, true, true, true, true, true, true, true, true] rfl rfl (any_of HT_.out (by kernel_rfl)) (fun _ _ _ h => h) (Or.inl ⟨by rfl, ?_⟩) ?_ ?_
                  rotate_left
                  · intro w'
                    go_simp
                    with_reducible rfl
                  rotate_left
                  · simp only [Act.put, List.setIfInBounds_toArray, List.set_cons_zero, List.set_cons_succ, i64_w, i32_w]
                    rfl
                  refine done_ (done_of HT_.out (by kernel_rfl)) ?_
                  have hcz24_0 : w23.cell? ⟨gb147, 0, none⟩ = some (.int .u64 a0_0) := (blk_cell BK147.out 0).trans rfl
                  have hcz24_1 : w23.cell? ⟨gb147, 1, none⟩ = some (.int .u64 a0_1) := (blk_cell BK147.out 1).trans rfl
                  have hcz24_2 : w23.cell? ⟨gb147, 2, none⟩ = some (.int .u64 a0_2) := (blk_cell BK147.out 2).trans rfl
                  have hcz24_3 : w23.cell? ⟨gb147, 3, none⟩ = some (.string a0_3) := (blk_cell BK147.out 3).trans rfl
                  have hcz24_4 : w23.cell? ⟨gb147, 4, none⟩ = some (.string a0_4) := (blk_cell BK147.out 4).trans rfl
                  have hfz24_0 := blk_frozen BK147.out 0
                  have hfz24_1 := blk_frozen BK147.out 1
                  have hfz24_2 := blk_frozen BK147.out 2
                  have hfz24_3 := blk_frozen BK147.out 3
                  have hfz24_4 := blk_frozen BK147.out 4
                  try go_wp2
                  go_ret
                  exact ⟨by first | rfl | (simp [nbn]; done) | (simp [errW_none, errW_some] <;> rfl) | (simp [*, errW_none, errW_some] <;> rfl), by repeat (first | (with_reducible first | exact HB.out | apply below_alloc | apply pw_below_drewN | apply below_drew1 | refine below_set ?_ GE147.out) | exact HB.out)⟩
                · rw [if_neg c18] at H
                  exact absurd H (by simp)
              · rw [if_neg c17] at H
                exact absurd H (by simp)
          · rw [if_neg c9] at H
            have c9b0 : (a0_3.toList == ([] : List UInt8)) = false := beq_eq_false_iff_ne.mpr c9
            have c9b1 : (a0_3.toList != ([] : List UInt8)) = true := bne_iff_ne.mpr c9
            by_cases c25 : 1 + a0_3.size ≤ 9223372036854775807
            · rw [if_pos c25] at H
              have c25b0 := eq_true c25
              have c25b1 : decide (1 + a0_3.size ≤ 9223372036854775807) = true := decide_eq_true c25
              try have c25b2 : (9223372036854775807 < 1 + a0_3.size) = False := eq_false (Nat.not_lt.2 c25)
              by_cases c26 : ((((t148 ++ (⟨#[46]⟩ : ByteArray)) ++ t149) ++ (⟨#[46]⟩ : ByteArray)) ++ t150).size + ((⟨#[45]⟩ : ByteArray) ++ a0_3).size ≤ 9223372036854775807
              · rw [if_pos c26] at H
                have c26b0 := eq_true c26
                have c26b1 : decide (((((t148 ++ (⟨#[46]⟩ : ByteArray)) ++ t149) ++ (⟨#[46]⟩ : ByteArray)) ++ t150).size + ((⟨#[45]⟩ : ByteArray) ++ a0_3).size ≤ 9223372036854775807) = true := decide_eq_true c26
                try have c26b2 : (9223372036854775807 < ((((t148 ++ (⟨#[46]⟩ : ByteArray)) ++ t149) ++ (⟨#[46]⟩ : ByteArray)) ++ t150).size + ((⟨#[45]⟩ : ByteArray) ++ a0_3).size) = False := eq_false (Nat.not_lt.2 c26)
                try have c26b3 := c26b2
                try simp only [ByteArray.size_append, bsz_, List.length_cons, List.length_nil, Nat.zero_add, Nat.reduceAdd] at c26b3
                by_cases c27 : a0_4.toList = ([] : List UInt8)
                · rw [if_pos c27] at H
                  have c27b0 : (a0_4.toList == ([] : List UInt8)) = true := beq_iff_eq.mpr c27
                  have c27b1 : (a0_4.toList != ([] : List UInt8)) = false := bne_eq_false_iff_eq.mpr c27
                  clear c27
                  obtain rfl := Option.some.inj H
                  go_enter Tryz.func10, Tryz.ntmps10
                  try go_wp2_with (first | ((with_reducible refine gate_dst (N := 1) rfl ?_); refine box_event ?hg (N := 1) ?hd (cs := #[.int .u64 a0_0, .int .u64 a0_1, .int .u64 a0_2, .string a0_3, .string a0_4]) (t := 24) ?hr ?_; (case hd => rfl); (case hg => rfl); (case hr => first | (go_simp; done) | (go_simp; rfl) | (go_simp; simp [IntKind.wrap_u8]; done)); intro gb147 hg w28 hbox hb; have n0_ := Aside0.mk (below_step (by repeat (first | (with_reducible first | exact HB.out | apply below_alloc | apply pw_below_drewN | apply below_drew1) | exact HB.out)) hb); have n1_ := Aside0.mk (hbox); have n2_ := Aside0.mk ((by rw [hg]; exact (below_size (by repeat (first | (with_reducible first | exact HB.out | apply below_alloc | apply pw_below_drewN | apply below_drew1) | exact HB.out))) : w.heap.size ≤ gb147)); have n3_ := Aside0.mk ((by rw [hg]; exact (below_size (by repeat (first | (with_reducible first | exact HB.out | apply below_alloc | apply pw_below_drewN | apply below_drew1) | exact HB.out))) : w.heap.size ≤ gb147)); clear HB; have HB := n0_; have BK147 := n1_; have GW147 := n2_; have GE147 := n3_; clear n0_ n1_ n2_ n3_; clear hb hbox hg))
                  have n0_ := Aside0.mk (blk_drew BK147.out)
                  have n1_ := Aside0.mk (below_drew1 HB.out)
                  clear BK147
                  clear HB
                  have BK147 := n0_
                  have HB := n1_
                  clear n0_ n1_
                  refine start_ (n := 14) (S := fun w' => w'.cell? ⟨gb147, 0, none⟩ = some (.int .u64 a0_0) ∧ w'.cell? ⟨gb147, 1, none⟩ = some (.int .u64 a0_1) ∧ w'.cell? ⟨gb147, 2, none⟩ = some (.int .u64 a0_2) ∧ w'.cell? ⟨gb147, 3, none⟩ = some (.string a0_3) ∧ w'.cell? ⟨gb147, 4, none⟩ = some (.string a0_4)) (ds := []) #[false, false, false, false, false, false, false, false, false, false, false, false, false, false] (by kernel_rfl) rfl rfl ⟨(blk_cell BK147.out 0).trans rfl, (blk_cell BK147.out 1).trans rfl, (blk_cell BK147.out 2).trans rfl, (blk_cell BK147.out 3).trans rfl, (blk_cell BK147.out 4).trans rfl⟩ (fun hHeld => ?_); refine with_tabW spec_VersionText.tab1 spec_VersionText.bits1 (fun HT_ HW_ => ?_)
                  generalize w28.drew = w29 at BK147 HB hHeld ⊢
                  refine pure_ (i := 0) (N := some 4) (v := ?_) (a' := ?_) #[true, false, false, false, false, false, false, false, false, false, false, false, false, false] rfl rfl (any_of HT_.out (by kernel_rfl)) (fun _ _ _ h => h) (Or.inl ⟨by rfl, ?_⟩) ?_ ?_
                  rotate_left
                  · intro w'
                    go_simp
                    with_reducible rfl
                  rotate_left
                  · simp only [Act.put, List.setIfInBounds_toArray, List.set_cons_zero, List.set_cons_succ, i64_w, i32_w]
                    rfl
                  refine pure_ (i := 4) (N := some 8) (v := ?_) (a' := ?_) #[true, false, false, false, true, false, false, false, false, false, false, false, false, false] rfl rfl (any_of HT_.out (by kernel_rfl)) (fun _ _ _ h => h) (Or.inl ⟨by rfl, ?_⟩) ?_ ?_
                  rotate_left
                  · intro w'
                    go_simp
                    with_reducible rfl
                  rotate_left
                  · simp only [Act.put, List.setIfInBounds_toArray, List.set_cons_zero, List.set_cons_succ, i64_w, i32_w]
                    rfl
                  refine pure_ (i := 9) (N := some 13) (v := ?_) (a' := ?_) #[true, false, false, false, true, false, false, false, false, true, false, false, false, false] rfl rfl (any_of HT_.out (by kernel_rfl)) (fun _ _ _ h => h) (Or.inl ⟨by rfl, ?_⟩) ?_ ?_
                  rotate_left
                  · intro w'
                    go_simp
                    with_reducible rfl
                  rotate_left
                  · simp only [Act.put, List.setIfInBounds_toArray, List.set_cons_zero, List.set_cons_succ, i64_w, i32_w]
                    rfl
                  refine take_ (i := 1) (N := some 5) (v := ?_) (a' := ?_) #[true, true, false, false, true, false, false, false, false, true, false, false, false, false] rfl rfl (take_ofW HT_.out HW_.out (by kernel_rfl)) (fun _ _ _ h => h) (Or.inl ⟨by rfl, ?_⟩) hHeld ?_ ?_
                  rotate_left
                  · rintro w' ⟨s0, s1, s2, s3, s4⟩
                    go_simp
                    with_reducible rfl
                  rotate_left
                  · simp only [Act.put, List.setIfInBounds_toArray, List.set_cons_zero, List.set_cons_succ, i64_w, i32_w]
                    rfl
                  refine take_ (i := 5) (N := some 9) (v := ?_) (a' := ?_) #[true, true, false, false, true, true, false, false, false, true, false, false, false, false] rfl rfl (take_ofW HT_.out HW_.out (by kernel_rfl)) (fun _ _ _ h => h) (Or.inl ⟨by rfl, ?_⟩) hHeld ?_ ?_
                  rotate_left
                  · rintro w' ⟨s0, s1, s2, s3, s4⟩
                    go_simp
                    with_reducible rfl
                  rotate_left
                  · simp only [Act.put, List.setIfInBounds_toArray, List.set_cons_zero, List.set_cons_succ, i64_w, i32_w]
                    rfl
                  refine take_ (i := 10) (N := some 14) (v := ?_) (a' := ?_) #[true, true, false, false, true, true, false, false, false, true, true, false, false, false] rfl rfl (take_ofW HT_.out HW_.out (by kernel_rfl)) (fun _ _ _ h => h) (Or.inl ⟨by rfl, ?_⟩) hHeld ?_ ?_
                  rotate_left
                  · rintro w' ⟨s0, s1, s2, s3, s4⟩
                    go_simp
                    with_reducible rfl
                  rotate_left
                  · simp only [Act.put, List.setIfInBounds_toArray, List.set_cons_zero, List.set_cons_succ, i64_w, i32_w]
                    rfl
                  refine one_ (i := 2) (N := some 6) #[true, true, true, false, true, true, false, false, false, true, true, false, false, false] rfl rfl (one_of HT_.out (by kernel_rfl)) (by decide) (fun K hK => ?_)
                  refine goes_ Tryz.func7 (by kernel_rfl) rfl #[.int .u64 a0_0] (by rfl) rfl rfl (by (try simp only [List.map_toArray, List.map_cons, List.map_nil]); first | done | rfl | (simp only [List.length_drop, List.length_take]; rfl)) ?_
                  with_reducible refine (spec_Decimal.calls k a0_0 t148 _ A2.out).mono ?_
                  rintro e w30 ⟨rfl, hb⟩
                  refine ⟨_, rfl, ?_⟩
                  have n0_ := Aside0.mk (blk_below (g := gb147) (o := .cells #[.int .u64 a0_0, .int .u64 a0_1, .int .u64 a0_2, .string a0_3, .string a0_4] 24 (0, 0)) (by (with_reducible repeat (first | refine blk_drewN ?_ _ | refine blk_drew ?_ | refine blk_alloc ?_ _)); exact BK147.out) hb)
                  have n1_ := Aside0.mk (below_step (by repeat (first | (with_reducible first | exact HB.out | apply below_alloc | apply pw_below_drewN | apply below_drew1 | refine below_set ?_ GE147.out) | exact HB.out)) hb)
                  clear BK147
                  clear HB
                  have BK147 := n0_
                  have HB := n1_
                  clear n0_ n1_
                  (try clear hb)
                  (try clear hb2)
                  (try clear hk)
                  (try clear hi)
                  refine hK.out _ _ ⟨(blk_cell BK147.out 0).trans rfl, (blk_cell BK147.out 1).trans rfl, (blk_cell BK147.out 2).trans rfl, (blk_cell BK147.out 3).trans rfl, (blk_cell BK147.out 4).trans rfl⟩ (fun hHeld => ?_)
                  clear hK K
                  refine norm_ (a' := ?_) ?_ ?_
                  rotate_left
                  · show Act.put _ (some 6) _ = _
                    simp only [Act.put, List.setIfInBounds_toArray, List.set_cons_zero, List.set_cons_succ, i64_w, i32_w]
                    rfl
                  refine pure_ (i := 3) (N := some 7) (v := ?_) (a' := ?_) #[true, true, true, true, true, true, false, false, false, true, true, false, false, false] rfl rfl (any_of HT_.out (by kernel_rfl)) (fun _ _ _ h => h) (Or.inl ⟨by rfl, ?_⟩) ?_ ?_
                  rotate_left
                  · intro w'
                    go_simp
                    with_reducible rfl
                  rotate_left
                  · simp only [Act.put, List.setIfInBounds_toArray, List.set_cons_zero, List.set_cons_succ, i64_w, i32_w]
                    rfl
                  refine one_ (i := 6) (N := some 10) #[true, true, true, true, true, true, true, false, false, true, true, false, false, false] rfl rfl (one_of HT_.out (by kernel_rfl)) (by decide) (fun K hK => ?_)
                  refine goes_ Tryz.func7 (by kernel_rfl) rfl #[.int .u64 a0_1] (by rfl) rfl rfl (by (try simp only [List.map_toArray, List.map_cons, List.map_nil]); first | done | rfl | (simp only [List.length_drop, List.length_take]; rfl)) ?_
                  with_reducible refine (spec_Decimal.calls k a0_1 t149 _ A4.out).mono ?_
                  rintro e w31 ⟨rfl, hb⟩
                  refine ⟨_, rfl, ?_⟩
                  have n0_ := Aside0.mk (blk_below (g := gb147) (o := .cells #[.int .u64 a0_0, .int .u64 a0_1, .int .u64 a0_2, .string a0_3, .string a0_4] 24 (0, 0)) (by (with_reducible repeat (first | refine blk_drewN ?_ _ | refine blk_drew ?_ | refine blk_alloc ?_ _)); exact BK147.out) hb)
                  have n1_ := Aside0.mk (below_step (by repeat (first | (with_reducible first | exact HB.out | apply below_alloc | apply pw_below_drewN | apply below_drew1 | refine below_set ?_ GE147.out) | exact HB.out)) hb)
                  clear BK147
                  clear HB
                  have BK147 := n0_
                  have HB := n1_
                  clear n0_ n1_
                  (try clear hb)
                  (try clear hb2)
                  (try clear hk)
                  (try clear hi)
                  refine hK.out _ _ ⟨(blk_cell BK147.out 0).trans rfl, (blk_cell BK147.out 1).trans rfl, (blk_cell BK147.out 2).trans rfl, (blk_cell BK147.out 3).trans rfl, (blk_cell BK147.out 4).trans rfl⟩ (fun hHeld => ?_)
                  clear hK K
                  refine norm_ (a' := ?_) ?_ ?_
                  rotate_left
                  · show Act.put _ (some 10) _ = _
                    simp only [Act.put, List.setIfInBounds_toArray, List.set_cons_zero, List.set_cons_succ, i64_w, i32_w]
                    rfl
                  refine pure_ (i := 7) (N := some 11) (v := ?_) (a' := ?_) #[true, true, true, true, true, true, true, true, false, true, true, false, false, false] rfl rfl (any_of HT_.out (by kernel_rfl)) (fun _ _ _ h => h) (Or.inl ⟨by rfl, ?_⟩) ?_ ?_
                  rotate_left
                  · intro w'
                    go_simp
                    with_reducible rfl
                  rotate_left
                  · simp only [Act.put, List.setIfInBounds_toArray, List.set_cons_zero, List.set_cons_succ, i64_w, i32_w]
                    rfl
                  refine pure_ (i := 8) (N := some 12) (v := ?_) (a' := ?_) #[true, true, true, true, true, true, true, true, true, true, true, false, false, false] rfl rfl (any_of HT_.out (by kernel_rfl)) (fun _ _ _ h => h) (Or.inl ⟨by rfl, ?_⟩) ?_ ?_
                  rotate_left
                  · intro w'
                    go_simp
                    with_reducible rfl
                  rotate_left
                  · simp only [Act.put, List.setIfInBounds_toArray, List.set_cons_zero, List.set_cons_succ, i64_w, i32_w]
                    rfl
                  refine one_ (i := 11) (N := some 15) #[true, true, true, true, true, true, true, true, true, true, true, true, false, false] rfl rfl (one_of HT_.out (by kernel_rfl)) (by decide) (fun K hK => ?_)
                  refine goes_ Tryz.func7 (by kernel_rfl) rfl #[.int .u64 a0_2] (by rfl) rfl rfl (by (try simp only [List.map_toArray, List.map_cons, List.map_nil]); first | done | rfl | (simp only [List.length_drop, List.length_take]; rfl)) ?_
                  with_reducible refine (spec_Decimal.calls k a0_2 t150 _ A7.out).mono ?_
                  rintro e w32 ⟨rfl, hb⟩
                  refine ⟨_, rfl, ?_⟩
                  have n0_ := Aside0.mk (blk_below (g := gb147) (o := .cells #[.int .u64 a0_0, .int .u64 a0_1, .int .u64 a0_2, .string a0_3, .string a0_4] 24 (0, 0)) (by (with_reducible repeat (first | refine blk_drewN ?_ _ | refine blk_drew ?_ | refine blk_alloc ?_ _)); exact BK147.out) hb)
                  have n1_ := Aside0.mk (below_step (by repeat (first | (with_reducible first | exact HB.out | apply below_alloc | apply pw_below_drewN | apply below_drew1 | refine below_set ?_ GE147.out) | exact HB.out)) hb)
                  clear BK147
                  clear HB
                  have BK147 := n0_
                  have HB := n1_
                  clear n0_ n1_
                  (try clear hb)
                  (try clear hb2)
                  (try clear hk)
                  (try clear hi)
                  refine hK.out _ _ ⟨(blk_cell BK147.out 0).trans rfl, (blk_cell BK147.out 1).trans rfl, (blk_cell BK147.out 2).trans rfl, (blk_cell BK147.out 3).trans rfl, (blk_cell BK147.out 4).trans rfl⟩ (fun hHeld => ?_)
                  clear hK K
                  refine norm_ (a' := ?_) ?_ ?_
                  rotate_left
                  · show Act.put _ (some 15) _ = _
                    simp only [Act.put, List.setIfInBounds_toArray, List.set_cons_zero, List.set_cons_succ, i64_w, i32_w]
                    rfl
                  refine pure_ (i := 12) (N := some 16) (v := ?_) (a' := ?_) #[true, true, true, true, true, true, true, true, true, true, true, true, true, false] rfl rfl (any_of HT_.out (by kernel_rfl)) (fun _ _ _ h => h) (Or.inl ⟨by rfl, ?_⟩) ?_ ?_
                  rotate_left
                  · intro w'
                    go_simp
                    with_reducible rfl
                  rotate_left
                  · simp only [Act.put, List.setIfInBounds_toArray, List.set_cons_zero, List.set_cons_succ, i64_w, i32_w]
                    rfl
                  refine pure_ (i := 13) (N := some 3) (v := ?_) (a' := ?_) #[true, true, true, true, true, true, true, true, true, true, true, true, true, true] rfl rfl (any_of HT_.out (by kernel_rfl)) (fun _ _ _ h => h) (Or.inl ⟨by rfl, ?_⟩) ?_ ?_
                  rotate_left
                  · intro w'
                    go_simp
                    with_reducible rfl
                  rotate_left
                  · simp only [Act.put, List.setIfInBounds_toArray, List.set_cons_zero, List.set_cons_succ, i64_w, i32_w]
                    rfl
                  refine done_ (done_of HT_.out (by kernel_rfl)) ?_
                  have hcz33_0 : w32.cell? ⟨gb147, 0, none⟩ = some (.int .u64 a0_0) := (blk_cell BK147.out 0).trans rfl
                  have hcz33_1 : w32.cell? ⟨gb147, 1, none⟩ = some (.int .u64 a0_1) := (blk_cell BK147.out 1).trans rfl
                  have hcz33_2 : w32.cell? ⟨gb147, 2, none⟩ = some (.int .u64 a0_2) := (blk_cell BK147.out 2).trans rfl
                  have hcz33_3 : w32.cell? ⟨gb147, 3, none⟩ = some (.string a0_3) := (blk_cell BK147.out 3).trans rfl
                  have hcz33_4 : w32.cell? ⟨gb147, 4, none⟩ = some (.string a0_4) := (blk_cell BK147.out 4).trans rfl
                  have hfz33_0 := blk_frozen BK147.out 0
                  have hfz33_1 := blk_frozen BK147.out 1
                  have hfz33_2 := blk_frozen BK147.out 2
                  have hfz33_3 := blk_frozen BK147.out 3
                  have hfz33_4 := blk_frozen BK147.out 4
                  try go_wp2
                  go_ret
                  exact ⟨by first | rfl | (simp [nbn]; done) | (simp [errW_none, errW_some] <;> rfl) | (simp [*, errW_none, errW_some] <;> rfl), by repeat (first | (with_reducible first | exact HB.out | apply below_alloc | apply pw_below_drewN | apply below_drew1 | refine below_set ?_ GE147.out) | exact HB.out)⟩
                · rw [if_neg c27] at H
                  have c27b0 : (a0_4.toList == ([] : List UInt8)) = false := beq_eq_false_iff_ne.mpr c27
                  have c27b1 : (a0_4.toList != ([] : List UInt8)) = true := bne_iff_ne.mpr c27
                  by_cases c34 : 1 + a0_4.size ≤ 9223372036854775807
                  · rw [if_pos c34] at H
                    have c34b0 := eq_true c34
                    have c34b1 : decide (1 + a0_4.size ≤ 9223372036854775807) = true := decide_eq_true c34
                    try have c34b2 : (9223372036854775807 < 1 + a0_4.size) = False := eq_false (Nat.not_lt.2 c34)
                    by_cases c35 : (((((t148 ++ (⟨#[46]⟩ : ByteArray)) ++ t149) ++ (⟨#[46]⟩ : ByteArray)) ++ t150) ++ ((⟨#[45]⟩ : ByteArray) ++ a0_3)).size + ((⟨#[43]⟩ : ByteArray) ++ a0_4).size ≤ 9223372036854775807
                    · rw [if_pos c35] at H
                      have c35b0 := eq_true c35
                      have c35b1 : decide ((((((t148 ++ (⟨#[46]⟩ : ByteArray)) ++ t149) ++ (⟨#[46]⟩ : ByteArray)) ++ t150) ++ ((⟨#[45]⟩ : ByteArray) ++ a0_3)).size + ((⟨#[43]⟩ : ByteArray) ++ a0_4).size ≤ 9223372036854775807) = true := decide_eq_true c35
                      try have c35b2 : (9223372036854775807 < (((((t148 ++ (⟨#[46]⟩ : ByteArray)) ++ t149) ++ (⟨#[46]⟩ : ByteArray)) ++ t150) ++ ((⟨#[45]⟩ : ByteArray) ++ a0_3)).size + ((⟨#[43]⟩ : ByteArray) ++ a0_4).size) = False := eq_false (Nat.not_lt.2 c35)
                      try have c35b3 := c35b2
                      try simp only [ByteArray.size_append, bsz_, List.length_cons, List.length_nil, Nat.zero_add, Nat.reduceAdd] at c35b3
                      obtain rfl := Option.some.inj H
                      go_enter Tryz.func10, Tryz.ntmps10
                      try go_wp2_with (first | ((with_reducible refine gate_dst (N := 1) rfl ?_); refine box_event ?hg (N := 1) ?hd (cs := #[.int .u64 a0_0, .int .u64 a0_1, .int .u64 a0_2, .string a0_3, .string a0_4]) (t := 24) ?hr ?_; (case hd => rfl); (case hg => rfl); (case hr => first | (go_simp; done) | (go_simp; rfl) | (go_simp; simp [IntKind.wrap_u8]; done)); intro gb147 hg w36 hbox hb; have n0_ := Aside0.mk (below_step (by repeat (first | (with_reducible first | exact HB.out | apply below_alloc | apply pw_below_drewN | apply below_drew1) | exact HB.out)) hb); have n1_ := Aside0.mk (hbox); have n2_ := Aside0.mk ((by rw [hg]; exact (below_size (by repeat (first | (with_reducible first | exact HB.out | apply below_alloc | apply pw_below_drewN | apply below_drew1) | exact HB.out))) : w.heap.size ≤ gb147)); have n3_ := Aside0.mk ((by rw [hg]; exact (below_size (by repeat (first | (with_reducible first | exact HB.out | apply below_alloc | apply pw_below_drewN | apply below_drew1) | exact HB.out))) : w.heap.size ≤ gb147)); clear HB; have HB := n0_; have BK147 := n1_; have GW147 := n2_; have GE147 := n3_; clear n0_ n1_ n2_ n3_; clear hb hbox hg))
                      have n0_ := Aside0.mk (blk_drew BK147.out)
                      have n1_ := Aside0.mk (below_drew1 HB.out)
                      clear BK147
                      clear HB
                      have BK147 := n0_
                      have HB := n1_
                      clear n0_ n1_
                      refine start_ (n := 14) (S := fun w' => w'.cell? ⟨gb147, 0, none⟩ = some (.int .u64 a0_0) ∧ w'.cell? ⟨gb147, 1, none⟩ = some (.int .u64 a0_1) ∧ w'.cell? ⟨gb147, 2, none⟩ = some (.int .u64 a0_2) ∧ w'.cell? ⟨gb147, 3, none⟩ = some (.string a0_3) ∧ w'.cell? ⟨gb147, 4, none⟩ = some (.string a0_4)) (ds := []) #[false, false, false, false, false, false, false, false, false, false, false, false, false, false] (by kernel_rfl) rfl rfl ⟨(blk_cell BK147.out 0).trans rfl, (blk_cell BK147.out 1).trans rfl, (blk_cell BK147.out 2).trans rfl, (blk_cell BK147.out 3).trans rfl, (blk_cell BK147.out 4).trans rfl⟩ (fun hHeld => ?_); refine with_tabW spec_VersionText.tab1 spec_VersionText.bits1 (fun HT_ HW_ => ?_)
                      generalize w36.drew = w37 at BK147 HB hHeld ⊢
                      refine pure_ (i := 0) (N := some 4) (v := ?_) (a' := ?_) #[true, false, false, false, false, false, false, false, false, false, false, false, false, false] rfl rfl (any_of HT_.out (by kernel_rfl)) (fun _ _ _ h => h) (Or.inl ⟨by rfl, ?_⟩) ?_ ?_
                      rotate_left
                      · intro w'
                        go_simp
                        with_reducible rfl
                      rotate_left
                      · simp only [Act.put, List.setIfInBounds_toArray, List.set_cons_zero, List.set_cons_succ, i64_w, i32_w]
                        rfl
                      refine pure_ (i := 4) (N := some 8) (v := ?_) (a' := ?_) #[true, false, false, false, true, false, false, false, false, false, false, false, false, false] rfl rfl (any_of HT_.out (by kernel_rfl)) (fun _ _ _ h => h) (Or.inl ⟨by rfl, ?_⟩) ?_ ?_
                      rotate_left
                      · intro w'
                        go_simp
                        with_reducible rfl
                      rotate_left
                      · simp only [Act.put, List.setIfInBounds_toArray, List.set_cons_zero, List.set_cons_succ, i64_w, i32_w]
                        rfl
                      refine pure_ (i := 9) (N := some 13) (v := ?_) (a' := ?_) #[true, false, false, false, true, false, false, false, false, true, false, false, false, false] rfl rfl (any_of HT_.out (by kernel_rfl)) (fun _ _ _ h => h) (Or.inl ⟨by rfl, ?_⟩) ?_ ?_
                      rotate_left
                      · intro w'
                        go_simp
                        with_reducible rfl
                      rotate_left
                      · simp only [Act.put, List.setIfInBounds_toArray, List.set_cons_zero, List.set_cons_succ, i64_w, i32_w]
                        rfl
                      refine take_ (i := 1) (N := some 5) (v := ?_) (a' := ?_) #[true, true, false, false, true, false, false, false, false, true, false, false, false, false] rfl rfl (take_ofW HT_.out HW_.out (by kernel_rfl)) (fun _ _ _ h => h) (Or.inl ⟨by rfl, ?_⟩) hHeld ?_ ?_
                      rotate_left
                      · rintro w' ⟨s0, s1, s2, s3, s4⟩
                        go_simp
                        with_reducible rfl
                      rotate_left
                      · simp only [Act.put, List.setIfInBounds_toArray, List.set_cons_zero, List.set_cons_succ, i64_w, i32_w]
                        rfl
                      refine take_ (i := 5) (N := some 9) (v := ?_) (a' := ?_) #[true, true, false, false, true, true, false, false, false, true, false, false, false, false] rfl rfl (take_ofW HT_.out HW_.out (by kernel_rfl)) (fun _ _ _ h => h) (Or.inl ⟨by rfl, ?_⟩) hHeld ?_ ?_
                      rotate_left
                      · rintro w' ⟨s0, s1, s2, s3, s4⟩
                        go_simp
                        with_reducible rfl
                      rotate_left
                      · simp only [Act.put, List.setIfInBounds_toArray, List.set_cons_zero, List.set_cons_succ, i64_w, i32_w]
                        rfl
                      refine take_ (i := 10) (N := some 14) (v := ?_) (a' := ?_) #[true, true, false, false, true, true, false, false, false, true, true, false, false, false] rfl rfl (take_ofW HT_.out HW_.out (by kernel_rfl)) (fun _ _ _ h => h) (Or.inl ⟨by rfl, ?_⟩) hHeld ?_ ?_
                      rotate_left
                      · rintro w' ⟨s0, s1, s2, s3, s4⟩
                        go_simp
                        with_reducible rfl
                      rotate_left
                      · simp only [Act.put, List.setIfInBounds_toArray, List.set_cons_zero, List.set_cons_succ, i64_w, i32_w]
                        rfl
                      refine one_ (i := 2) (N := some 6) #[true, true, true, false, true, true, false, false, false, true, true, false, false, false] rfl rfl (one_of HT_.out (by kernel_rfl)) (by decide) (fun K hK => ?_)
                      refine goes_ Tryz.func7 (by kernel_rfl) rfl #[.int .u64 a0_0] (by rfl) rfl rfl (by (try simp only [List.map_toArray, List.map_cons, List.map_nil]); first | done | rfl | (simp only [List.length_drop, List.length_take]; rfl)) ?_
                      with_reducible refine (spec_Decimal.calls k a0_0 t148 _ A2.out).mono ?_
                      rintro e w38 ⟨rfl, hb⟩
                      refine ⟨_, rfl, ?_⟩
                      have n0_ := Aside0.mk (blk_below (g := gb147) (o := .cells #[.int .u64 a0_0, .int .u64 a0_1, .int .u64 a0_2, .string a0_3, .string a0_4] 24 (0, 0)) (by (with_reducible repeat (first | refine blk_drewN ?_ _ | refine blk_drew ?_ | refine blk_alloc ?_ _)); exact BK147.out) hb)
                      have n1_ := Aside0.mk (below_step (by repeat (first | (with_reducible first | exact HB.out | apply below_alloc | apply pw_below_drewN | apply below_drew1 | refine below_set ?_ GE147.out) | exact HB.out)) hb)
                      clear BK147
                      clear HB
                      have BK147 := n0_
                      have HB := n1_
                      clear n0_ n1_
                      (try clear hb)
                      (try clear hb2)
                      (try clear hk)
                      (try clear hi)
                      refine hK.out _ _ ⟨(blk_cell BK147.out 0).trans rfl, (blk_cell BK147.out 1).trans rfl, (blk_cell BK147.out 2).trans rfl, (blk_cell BK147.out 3).trans rfl, (blk_cell BK147.out 4).trans rfl⟩ (fun hHeld => ?_)
                      clear hK K
                      refine norm_ (a' := ?_) ?_ ?_
                      rotate_left
                      · show Act.put _ (some 6) _ = _
                        simp only [Act.put, List.setIfInBounds_toArray, List.set_cons_zero, List.set_cons_succ, i64_w, i32_w]
                        rfl
                      refine pure_ (i := 3) (N := some 7) (v := ?_) (a' := ?_) #[true, true, true, true, true, true, false, false, false, true, true, false, false, false] rfl rfl (any_of HT_.out (by kernel_rfl)) (fun _ _ _ h => h) (Or.inl ⟨by rfl, ?_⟩) ?_ ?_
                      rotate_left
                      · intro w'
                        go_simp
                        with_reducible rfl
                      rotate_left
                      · simp only [Act.put, List.setIfInBounds_toArray, List.set_cons_zero, List.set_cons_succ, i64_w, i32_w]
                        rfl
                      refine one_ (i := 6) (N := some 10) #[true, true, true, true, true, true, true, false, false, true, true, false, false, false] rfl rfl (one_of HT_.out (by kernel_rfl)) (by decide) (fun K hK => ?_)
                      refine goes_ Tryz.func7 (by kernel_rfl) rfl #[.int .u64 a0_1] (by rfl) rfl rfl (by (try simp only [List.map_toArray, List.map_cons, List.map_nil]); first | done | rfl | (simp only [List.length_drop, List.length_take]; rfl)) ?_
                      with_reducible refine (spec_Decimal.calls k a0_1 t149 _ A4.out).mono ?_
                      rintro e w39 ⟨rfl, hb⟩
                      refine ⟨_, rfl, ?_⟩
                      have n0_ := Aside0.mk (blk_below (g := gb147) (o := .cells #[.int .u64 a0_0, .int .u64 a0_1, .int .u64 a0_2, .string a0_3, .string a0_4] 24 (0, 0)) (by (with_reducible repeat (first | refine blk_drewN ?_ _ | refine blk_drew ?_ | refine blk_alloc ?_ _)); exact BK147.out) hb)
                      have n1_ := Aside0.mk (below_step (by repeat (first | (with_reducible first | exact HB.out | apply below_alloc | apply pw_below_drewN | apply below_drew1 | refine below_set ?_ GE147.out) | exact HB.out)) hb)
                      clear BK147
                      clear HB
                      have BK147 := n0_
                      have HB := n1_
                      clear n0_ n1_
                      (try clear hb)
                      (try clear hb2)
                      (try clear hk)
                      (try clear hi)
                      refine hK.out _ _ ⟨(blk_cell BK147.out 0).trans rfl, (blk_cell BK147.out 1).trans rfl, (blk_cell BK147.out 2).trans rfl, (blk_cell BK147.out 3).trans rfl, (blk_cell BK147.out 4).trans rfl⟩ (fun hHeld => ?_)
                      clear hK K
                      refine norm_ (a' := ?_) ?_ ?_
                      rotate_left
                      · show Act.put _ (some 10) _ = _
                        simp only [Act.put, List.setIfInBounds_toArray, List.set_cons_zero, List.set_cons_succ, i64_w, i32_w]
                        rfl
                      refine pure_ (i := 7) (N := some 11) (v := ?_) (a' := ?_) #[true, true, true, true, true, true, true, true, false, true, true, false, false, false] rfl rfl (any_of HT_.out (by kernel_rfl)) (fun _ _ _ h => h) (Or.inl ⟨by rfl, ?_⟩) ?_ ?_
                      rotate_left
                      · intro w'
                        go_simp
                        with_reducible rfl
                      rotate_left
                      · simp only [Act.put, List.setIfInBounds_toArray, List.set_cons_zero, List.set_cons_succ, i64_w, i32_w]
                        rfl
                      refine pure_ (i := 8) (N := some 12) (v := ?_) (a' := ?_) #[true, true, true, true, true, true, true, true, true, true, true, false, false, false] rfl rfl (any_of HT_.out (by kernel_rfl)) (fun _ _ _ h => h) (Or.inl ⟨by rfl, ?_⟩) ?_ ?_
                      rotate_left
                      · intro w'
                        go_simp
                        with_reducible rfl
                      rotate_left
                      · simp only [Act.put, List.setIfInBounds_toArray, List.set_cons_zero, List.set_cons_succ, i64_w, i32_w]
                        rfl
                      refine one_ (i := 11) (N := some 15) #[true, true, true, true, true, true, true, true, true, true, true, true, false, false] rfl rfl (one_of HT_.out (by kernel_rfl)) (by decide) (fun K hK => ?_)
                      refine goes_ Tryz.func7 (by kernel_rfl) rfl #[.int .u64 a0_2] (by rfl) rfl rfl (by (try simp only [List.map_toArray, List.map_cons, List.map_nil]); first | done | rfl | (simp only [List.length_drop, List.length_take]; rfl)) ?_
                      with_reducible refine (spec_Decimal.calls k a0_2 t150 _ A7.out).mono ?_
                      rintro e w40 ⟨rfl, hb⟩
                      refine ⟨_, rfl, ?_⟩
                      have n0_ := Aside0.mk (blk_below (g := gb147) (o := .cells #[.int .u64 a0_0, .int .u64 a0_1, .int .u64 a0_2, .string a0_3, .string a0_4] 24 (0, 0)) (by (with_reducible repeat (first | refine blk_drewN ?_ _ | refine blk_drew ?_ | refine blk_alloc ?_ _)); exact BK147.out) hb)
                      have n1_ := Aside0.mk (below_step (by repeat (first | (with_reducible first | exact HB.out | apply below_alloc | apply pw_below_drewN | apply below_drew1 | refine below_set ?_ GE147.out) | exact HB.out)) hb)
                      clear BK147
                      clear HB
                      have BK147 := n0_
                      have HB := n1_
                      clear n0_ n1_
                      (try clear hb)
                      (try clear hb2)
                      (try clear hk)
                      (try clear hi)
                      refine hK.out _ _ ⟨(blk_cell BK147.out 0).trans rfl, (blk_cell BK147.out 1).trans rfl, (blk_cell BK147.out 2).trans rfl, (blk_cell BK147.out 3).trans rfl, (blk_cell BK147.out 4).trans rfl⟩ (fun hHeld => ?_)
                      clear hK K
                      refine norm_ (a' := ?_) ?_ ?_
                      rotate_left
                      · show Act.put _ (some 15) _ = _
                        simp only [Act.put, List.setIfInBounds_toArray, List.set_cons_zero, List.set_cons_succ, i64_w, i32_w]
                        rfl
                      refine pure_ (i := 12) (N := some 16) (v := ?_) (a' := ?_) #[true, true, true, true, true, true, true, true, true, true, true, true, true, false] rfl rfl (any_of HT_.out (by kernel_rfl)) (fun _ _ _ h => h) (Or.inl ⟨by rfl, ?_⟩) ?_ ?_
                      rotate_left
                      · intro w'
                        go_simp
                        with_reducible rfl
                      rotate_left
                      · simp only [Act.put, List.setIfInBounds_toArray, List.set_cons_zero, List.set_cons_succ, i64_w, i32_w]
                        rfl
                      refine pure_ (i := 13) (N := some 3) (v := ?_) (a' := ?_) #[true, true, true, true, true, true, true, true, true, true, true, true, true, true] rfl rfl (any_of HT_.out (by kernel_rfl)) (fun _ _ _ h => h) (Or.inl ⟨by rfl, ?_⟩) ?_ ?_
                      rotate_left
                      · intro w'
                        go_simp
                        with_reducible rfl
                      rotate_left
                      · simp only [Act.put, List.setIfInBounds_toArray, List.set_cons_zero, List.set_cons_succ, i64_w, i32_w]
                        rfl
                      refine done_ (done_of HT_.out (by kernel_rfl)) ?_
                      have hcz41_0 : w40.cell? ⟨gb147, 0, none⟩ = some (.int .u64 a0_0) := (blk_cell BK147.out 0).trans rfl
                      have hcz41_1 : w40.cell? ⟨gb147, 1, none⟩ = some (.int .u64 a0_1) := (blk_cell BK147.out 1).trans rfl
                      have hcz41_2 : w40.cell? ⟨gb147, 2, none⟩ = some (.int .u64 a0_2) := (blk_cell BK147.out 2).trans rfl
                      have hcz41_3 : w40.cell? ⟨gb147, 3, none⟩ = some (.string a0_3) := (blk_cell BK147.out 3).trans rfl
                      have hcz41_4 : w40.cell? ⟨gb147, 4, none⟩ = some (.string a0_4) := (blk_cell BK147.out 4).trans rfl
                      have hfz41_0 := blk_frozen BK147.out 0
                      have hfz41_1 := blk_frozen BK147.out 1
                      have hfz41_2 := blk_frozen BK147.out 2
                      have hfz41_3 := blk_frozen BK147.out 3
                      have hfz41_4 := blk_frozen BK147.out 4
                      try go_wp2
                      go_ret
                      exact ⟨by first | rfl | (simp [nbn]; done) | (simp [errW_none, errW_some] <;> rfl) | (simp [*, errW_none, errW_some] <;> rfl), by repeat (first | (with_reducible first | exact HB.out | apply below_alloc | apply pw_below_drewN | apply below_drew1 | refine below_set ?_ GE147.out) | exact HB.out)⟩
                    · rw [if_neg c35] at H
                      exact absurd H (by simp)
                  · rw [if_neg c34] at H
                    exact absurd H (by simp)
              · rw [if_neg c26] at H
                exact absurd H (by simp)
            · rw [if_neg c25] at H
              exact absurd H (by simp)
        · rw [if_neg c8] at H
          exact absurd H (by simp)
      · rw [if_neg c6] at H
        exact absurd H (by simp)
    · rw [if_neg c5] at H
      exact absurd H (by simp)
  · rw [if_neg c3] at H
    exact absurd H (by simp)

end Go.Proofs.YtekkaknpgdgjjaaGreatDoor.PG
