-- Written by a program of this session (wip/patch_print.py, after the kit's print), not by hand.
import Derived.Test.YtbdlcbllcjpaaaaDoorPGx0
import Derived.Test.YtbdlcbllcjpaaaaDoorHaByte
namespace Go.Proofs.YtbdlcbllcjpaaaaDoor.PG
open Go.Proofs.YtbdlcbllcjpaaaaDoor.H
open Go.RowKit Go.Proofs.YtbdlcbllcjpaaaaDoorW.PrintWords Go.Proofs.YtbdlcbllcjpaaaaDoorW.PrintLast Go.Proofs.YtbdlcbllcjpaaaaDoorW.PrintMore
attribute [local go_sem] max2_int min2_int max_two min_two max_three min_three max_four min_four   -- for this text's walks alone
set_option linter.unusedVariables false
set_option linter.unusedSimpArgs false

/-! ### utf8_DecodeRuneInString: function 20 -/
def utf8_DecodeRuneInString.f (a0 : ByteArray) : Option (Int × Int) := if a0.toList = ([] : List UInt8) then ((utf8_decodeRuneInStringSlow.f a0).bind fun bt160 => (some (bt160.1, bt160.2))) else (if 0 < (a0.size : Int) then (if (bt a0 0) < 128 then (some (wrap32 (bt a0 0), 1)) else ((utf8_decodeRuneInStringSlow.f a0).bind fun bt162 => (some (bt162.1, bt162.2)))) else (none))
set_option maxHeartbeats 8000000 in
set_option maxRecDepth 100000 in
theorem utf8_DecodeRuneInString.calls (a0 : ByteArray) (r1 : Int) (r2 : Int) (w : World) (h : utf8_DecodeRuneInString.f a0 = some (r1, r2)) :
    Calls Tryd.prog 20 #[.string a0] w fun e w' => e = .returned (.tuple #[.int .i32 r1, .int .i64 r2]) ∧ Below w.heap.size w w' := by
  have HB := Aside0.mk (Below.refl w.heap.size w)
  have H : (if a0.toList = ([] : List UInt8) then ((utf8_decodeRuneInStringSlow.f a0).bind fun bt160 => (some (bt160.1, bt160.2))) else (if 0 < (a0.size : Int) then (if (bt a0 0) < 128 then (some (wrap32 (bt a0 0), 1)) else ((utf8_decodeRuneInStringSlow.f a0).bind fun bt162 => (some (bt162.1, bt162.2)))) else (none))) = some (r1, r2) := h
  clear h
  by_cases c2 : a0.toList = ([] : List UInt8)
  · rw [if_pos c2] at H
    have c2b0 : (a0.toList == ([] : List UInt8)) = true := beq_iff_eq.mpr c2
    have c2b1 : (a0.toList != ([] : List UInt8)) = false := bne_eq_false_iff_eq.mpr c2
    clear c2
    replace H := Option.bind_eq_some_iff.mp H
    obtain ⟨⟨t160, t161⟩, A30, H⟩ := H
    replace H : (some (t160, t161)) = some (r1, r2) := H
    have A3 := Aside0.mk A30
    clear A30
    simp only [Option.some.injEq, Prod.mk.injEq] at H
    obtain ⟨rfl, rfl⟩ := H
    go_enter Tryd.func20, Tryd.ntmps20
    go_wp2_with (first | ((with_reducible refine gate_callee (f := 22) rfl ?_); refine goesL_ (some 16) rfl rfl Tryd.func22 (by kernel_rfl) rfl #[.string a0] rfl (by (try simp only [List.map_toArray, List.map_cons, List.map_nil]); first | done | rfl | (simp only [List.length_drop, List.length_take]; rfl)) ?_; (with_reducible refine (utf8_decodeRuneInStringSlow.calls a0 t160 t161 _ A3.out).mono ?_); rintro e w4 ⟨rfl, hb⟩; refine ⟨_, rfl, ?_⟩; have n0_ := Aside0.mk (below_step (by repeat (first | (with_reducible first | exact HB.out | apply below_alloc | apply pw_below_drewN | apply below_drew1) | exact HB.out)) hb); clear HB; have HB := n0_; clear n0_; (try clear hb); (try clear hb2); (try clear hk); (try clear hi)))
    go_ret2
    exact ⟨by first | rfl | (simp [nbn]; done) | (simp [errW_none, errW_some] <;> rfl) | (simp [*, errW_none, errW_some] <;> rfl), by repeat (first | (with_reducible first | exact HB.out | apply below_alloc | apply pw_below_drewN | apply below_drew1) | exact HB.out)⟩
  · rw [if_neg c2] at H
    have c2b0 : (a0.toList == ([] : List UInt8)) = false := beq_eq_false_iff_ne.mpr c2
    have c2b1 : (a0.toList != ([] : List UInt8)) = true := bne_iff_ne.mpr c2
    by_cases c5 : 0 < (a0.size : Int)
    · rw [if_pos c5] at H
      have c5b0 : decide (0 < (a0.size : Int)) = true := decide_eq_true c5
      have c5b1 : decide (0 < a0.size) = true := decide_eq_true (by omega)
      clear c5
      by_cases c7 : (bt a0 0) < 128
      · rw [if_pos c7] at H
        have c7b0 : decide ((bt a0 0) < 128) = true := decide_eq_true c7
        clear c7
        simp only [Option.some.injEq, Prod.mk.injEq] at H
        obtain ⟨rfl, rfl⟩ := H
        have p6 : 0 ≤ (0 : Int) := (by omega)
        have q6 : 0 < a0.size := (by have : (0 : Int) < (a0.size : Int) := of_decide_eq_true (by first | (with_reducible assumption) | assumption); omega)
        have hx6 : ∀ h : 0 < a0.size, ((a0[0]'h).toNat : Int) = bt a0 0 := bt_at a0 0
        clear p6
        have qi6 : (0 < (a0.size : Int)) = True := eq_true (of_decide_eq_true (by first | (with_reducible assumption) | assumption))
        replace q6 := eq_true q6
        have p8 : 0 ≤ (0 : Int) := (by omega)
        have q8 : 0 < a0.size := (by have : (0 : Int) < (a0.size : Int) := of_decide_eq_true (by first | (with_reducible assumption) | assumption); omega)
        have hx8 : ∀ h : 0 < a0.size, ((a0[0]'h).toNat : Int) = bt a0 0 := bt_at a0 0
        clear p8
        have qi8 : (0 < (a0.size : Int)) = True := eq_true (of_decide_eq_true (by first | (with_reducible assumption) | assumption))
        replace q8 := eq_true q8
        go_enter Tryd.func20, Tryd.ntmps20
        go_wp2
        go_ret2
        exact ⟨by first | rfl | (simp [nbn]; done) | (simp [errW_none, errW_some] <;> rfl) | (simp [*, errW_none, errW_some] <;> rfl), by repeat (first | (with_reducible first | exact HB.out | apply below_alloc | apply pw_below_drewN | apply below_drew1) | exact HB.out)⟩
      · rw [if_neg c7] at H
        have c7b0 : decide ((bt a0 0) < 128) = false := decide_eq_false c7
        clear c7
        replace H := Option.bind_eq_some_iff.mp H
        obtain ⟨⟨t162, t163⟩, A90, H⟩ := H
        replace H : (some (t162, t163)) = some (r1, r2) := H
        have A9 := Aside0.mk A90
        clear A90
        simp only [Option.some.injEq, Prod.mk.injEq] at H
        obtain ⟨rfl, rfl⟩ := H
        have p6 : 0 ≤ (0 : Int) := (by omega)
        have q6 : 0 < a0.size := (by have : (0 : Int) < (a0.size : Int) := of_decide_eq_true (by first | (with_reducible assumption) | assumption); omega)
        have hx6 : ∀ h : 0 < a0.size, ((a0[0]'h).toNat : Int) = bt a0 0 := bt_at a0 0
        clear p6
        have qi6 : (0 < (a0.size : Int)) = True := eq_true (of_decide_eq_true (by first | (with_reducible assumption) | assumption))
        replace q6 := eq_true q6
        go_enter Tryd.func20, Tryd.ntmps20
        go_wp2_with (first | ((with_reducible refine gate_callee (f := 22) rfl ?_); refine goesL_ (some 16) rfl rfl Tryd.func22 (by kernel_rfl) rfl #[.string a0] rfl (by (try simp only [List.map_toArray, List.map_cons, List.map_nil]); first | done | rfl | (simp only [List.length_drop, List.length_take]; rfl)) ?_; (with_reducible refine (utf8_decodeRuneInStringSlow.calls a0 t162 t163 _ A9.out).mono ?_); rintro e w10 ⟨rfl, hb⟩; refine ⟨_, rfl, ?_⟩; have n0_ := Aside0.mk (below_step (by repeat (first | (with_reducible first | exact HB.out | apply below_alloc | apply pw_below_drewN | apply below_drew1) | exact HB.out)) hb); clear HB; have HB := n0_; clear n0_; (try clear hb); (try clear hb2); (try clear hk); (try clear hi)))
        go_ret2
        exact ⟨by first | rfl | (simp [nbn]; done) | (simp [errW_none, errW_some] <;> rfl) | (simp [*, errW_none, errW_some] <;> rfl), by repeat (first | (with_reducible first | exact HB.out | apply below_alloc | apply pw_below_drewN | apply below_drew1) | exact HB.out)⟩
    · rw [if_neg c5] at H
      exact absurd H (by simp)

end Go.Proofs.YtbdlcbllcjpaaaaDoor.PG
