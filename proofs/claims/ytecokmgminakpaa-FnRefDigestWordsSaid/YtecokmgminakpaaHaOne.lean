/- The one-pass engine's walk. -/
import Derived.Test.YtecokmgminakpaaHaIns
import Derived.ScopeJumps
import Derived.WalkMore
namespace Go
theorem wp_scope_fwd {P : Program} {a : Act} {w : World} {Q : Exit → Act → World → Prop} {c rest : Code} (l : Nat) (hf : findLabel c l = some rest)
    (h : c.wp P (Exit.jump l (fun a w => rest.wp P (Exit.noGoto Q) a w) Q) a w) : (Code.scope c).wp P Q a w := by
  refine wp_scope_jumps l (fun a w => rest.wp P (Exit.noGoto Q) a w) (fun _ _ => 0) hf h (fun a w hJ => wp_mono hJ ?_)
  intro e a' w' hq
  cases e with
  | goto l' => exact hq.elim
  | _ => exact hq
section
variable {Q J : Exit → Act → World → Prop} {a : Act} {w : World}
@[go_sem] theorem Exit.jump_normal (l : Nat) (J : Act → World → Prop) : Exit.jump l J Q .normal a w = Q .normal a w := rfl
@[go_sem] theorem Exit.jump_exit (l : Nat) (J : Act → World → Prop) (id : Nat) : Exit.jump l J Q (.exit id) a w = Q (.exit id) a w := rfl
@[go_sem] theorem Exit.jump_ret (l : Nat) (J : Act → World → Prop) : Exit.jump l J Q .ret a w = Q .ret a w := rfl
@[go_sem] theorem Exit.jump_panic (l : Nat) (J : Act → World → Prop) (ch : List PanicEntry) : Exit.jump l J Q (.panic ch) a w = Q (.panic ch) a w := rfl
end
end Go
namespace Go.Proofs.Ytecokmgminakpaa.H
open Go.RowKit Go.Proofs.YtecokmgminakpaaW.PrintWords
set_option linter.unusedVariables false
set_option linter.unusedSimpArgs false
set_option maxRecDepth 100000

theorem rn_pos {s : ByteArray} {i : Nat} (h : i < s.size) : 0 ≤ rn s i := by
  unfold rn
  rw [if_pos h]
  exact (bt_range s _).1
/-- The compiled expression in memory, as far as the engine reads it. -/
structure Rx (w : World) (re : Nat) (L : List In) : Prop where
  cond : w.cell? ⟨re, 13, none⟩ = some (.int .u8 4)
  pre : w.cell? ⟨re, 6, none⟩ = some (.string ⟨#[]⟩)
  min : w.cell? ⟨re, 14, none⟩ = some (.int .i64 34)
  prog : ∃ go gi c, w.cell? ⟨re, 2, none⟩ = some (.pointer (some ⟨go, 0, none⟩)) ∧ w.cell? ⟨go, 0, none⟩ = some (.slice (some ⟨gi, 0, none⟩) L.length c) ∧ w.cell? ⟨go, 1, none⟩ = some (.int .i64 1) ∧
    ∀ (pc : Nat) (I : In), L[pc]? = some I → InsAt w gi (5 * pc) I
theorem Rx.below {w w' : World} {re : Nat} {L : List In} (h : Rx w re L) (hb : Below w.heap.size w w') : Rx w' re L := by
  obtain ⟨h1, h2, h3, go, gi, c, h4, h5, h6, h7⟩ := h
  exact ⟨cell_below h1 hb, cell_below h2 hb, cell_below h3 hb, go, gi, c, cell_below h4 hb, cell_below h5 hb, cell_below h6 hb, fun pc I hI => (h7 pc I hI).below hb⟩
/-- What is asked of a program's instructions. -/
def insOk (n : Nat) (I : In) : Prop := lenOk I.rs.length = true ∧ 0 ≤ I.out ∧ I.out < n ∧ (I.op = 8 → I.rs.length = 1) ∧ ((I.op = 0 ∨ I.op = 1) → ∀ r : Int, -1 ≤ r → r < 128 → mrp I.rs r < I.nx.length ∧ 0 ≤ opn I r ∧ opn I r < n)

set_option maxHeartbeats 8000000 in
theorem onepass_calls (s : ByteArray) (hs0 : 0 < s.size) (hs : s.size ≤ 2147483647) (hp : ∀ j : Nat, j < s.size → bt s j < 128) (re gd : Nat) (L : List In) (hL : ∀ I ∈ L, insOk L.length I) (hL1 : 1 < L.length) (hLl : L.length ≤ 100000) (hI1 : ∀ I, L[1]? = some I → I.arg = 4) (k : Nat) (R : Bool) (hrun : run L s k 1 0 = some R) (w : World) (hx : Rx w re L) :
    Calls Try.prog 17 #[.pointer (some ⟨re, 0, none⟩), .nilIface, .slice none 0 0, .string s, .int .i64 0, .int .i64 0, .slice (some ⟨gd, 0, none⟩) 0 0] w fun e w' => (∃ v, e = .returned v ∧ (if R = true then ∃ ad n c, v = .slice (some ad) n c else v = .slice none 0 0)) ∧ Below w.heap.size w w' := by
  obtain ⟨cond, pre, mn, go, gi, cp, p1, p2, p3, p4⟩ := hx
  have SC := Lib.hid (fun i W h => step_calls s w.heap.size i hs hp W h)
  have n0 := below_new' w (.cells #[.string ⟨#[]⟩, .slice none 0 0] 67)
  have B0 := heap_alloc_new w (.cells #[.string ⟨#[]⟩, .slice none 0 0] 67)
  have rn0 : ∀ j : Nat, -1 ≤ rn s j ∧ rn s j < 128 := by
    intro j
    unfold rn
    split
    · rename_i hj
      have := hp j hj
      have := bt_range s j
      omega
    · omega
  have hr0 := rn0 0
  have RN := Lib.hid rn0
  have W0 : Hid (wd s 0 = 1) := Lib.hid (if_pos hs0)
  have R0 : (rn s 0 != -1) = true := by
    rw [bne_iff_ne]
    have := rn_pos hs0
    omega
  have D4 : decide (wrap32 (fl (-1) (rn s 0) / 4294967296) < 0) = true := by
    rw [(fl_parts (by omega) hr0).1]
    decide
  obtain ⟨J1, hJ1⟩ : ∃ I, L[1]? = some I := ⟨_, List.getElem?_eq_getElem hL1⟩
  have A0 := (p4 1 J1 hJ1).arg
  rw [hI1 J1 hJ1] at A0
  have PI := Lib.hid p4
  clear p4 hp rn0 hr0 hI1
  have hu67 := Try.underlying67
  go_enter Try.func17, Try.ntmps17
  go_wp2
  refine wp_scope_fwd 0 rfl ?_
  go_wp2_with (first | (go_at_call 18; refine (newm_calls _).mono ?_; rintro e w1 ⟨rfl, rfl⟩))
  refine wp_loop_rounds 1 ?_
  rw [rounds_succ]
  have I1 := Lib.hid (init_calls s w.heap.size (.string ⟨#[]⟩) _ B0)
  have S0 : Hid (∀ W, W.cell? ⟨w.heap.size, 0, none⟩ = some (.string s) → Calls Try.prog 48 #[.pointer (some ⟨w.heap.size, 0, none⟩), .int .i64 0] W fun e w' => e = .returned (.tuple #[.int .i32 (rn s 0), .int .i64 (wd s 0)]) ∧ w' = W) := Lib.hid (SC.out 0)
  have S1 : Hid (∀ W, W.cell? ⟨w.heap.size, 0, none⟩ = some (.string s) → Calls Try.prog 48 #[.pointer (some ⟨w.heap.size, 0, none⟩), .int .i64 (wrap64 (wd s 0))] W fun e w' => e = .returned (.tuple #[.int .i32 (rn s 1), .int .i64 (wd s 1)]) ∧ w' = W) := Lib.hid (by
    have e : wrap64 (wd s 0) = ((1 : Nat) : Int) := by rw [W0.out]; unfold wrap64; omega
    rw [e]
    exact SC.out 1)
  go_wp2_with (first | (go_at_call 19; refine I1.out.mono ?_; rintro e w1 ⟨rfl, hw⟩; have M1 : w1.heap[w.heap.size]? = some (.cells #[.string s, .slice none 0 0] 67 (0, 0)) := (by rw [hw]; exact blk_set B0 0 (.string s)); have nb : Below w.heap.size w w1 := (by rw [hw]; exact below_set n0 (Nat.le_refl _)); have C1 := cell_below cond nb; have P1 := cell_below pre nb; have Q1 := cell_below p1 nb; have Q2 := cell_below p2 nb; have Q3 := cell_below p3 nb; have A1 := cell_below A0 nb; have X1 := (blk_cell M1 0).trans (show _ = some (.string s) from rfl); clear hw n0 B0 I1 cond pre mn p1 p2 p3 A0) | (go_at_call 48; refine (S0.out _ X1).mono ?_; rintro e w2 ⟨rfl, rfl⟩; clear S0) | (go_at_call 48; refine (S1.out _ X1).mono ?_; rintro e w2 ⟨rfl, rfl⟩; clear S1) | (go_at_call 20; refine (flag_calls _ _ _).mono ?_; rintro e w2 ⟨rfl, rfl⟩) | (go_at_call 21; refine (match4_calls _ _).mono ?_; rintro e w2 ⟨rfl, rfl⟩))
  go_loopg [4, 17, 21, 22, 23, 24, 25, 26] k (fun kq v4 v17 v21 v22 v23 v24 v25 v26 wx => ∃ (pc i : Nat) (x4 x26 F : Int), v4 = .int .i64 x4 ∧ v17 = .bool false ∧ v21 = .int .i32 (rn s i) ∧ v22 = .int .i32 (rn s (i + 1)) ∧ v23 = .int .i64 (wd s i) ∧ v24 = .int .i64 (wd s (i + 1)) ∧ v25 = .int .u64 F ∧ v26 = .int .i64 x26 ∧ Hid (x4 = (i : Int)) ∧ Hid (x26 = (pc : Int)) ∧ Hid (pc < L.length) ∧ Hid (F = fl (if i = 0 then -1 else rn s (i - 1)) (rn s i)) ∧ Hid (i ≤ s.size) ∧ Hid (run L s kq pc i = some R) ∧ wx = w2)
  case atStart => exact ⟨1, 0, 0, 1, _, rfl, rfl, rfl, rfl, rfl, rfl, rfl, rfl, Lib.hid rfl, Lib.hid rfl, Lib.hid hL1, Lib.hid rfl, Lib.hid (Nat.zero_le _), Lib.hid hrun, rfl⟩
  case round =>
    obtain ⟨pc, i, x4, x26, F, rfl, rfl, rfl, rfl, rfl, rfl, rfl, rfl, h4, h26, hpc, hF, hi, hV, rfl⟩ := hrel
    clear R0 D4 A1 hJ1 hrun
    cases gk with
    | zero => exact absurd hV.out (by simp [run])
    | succ k1 =>
      obtain ⟨I, hI⟩ : ∃ I, L[pc]? = some I := ⟨_, List.getElem?_eq_getElem hpc.out⟩
      have V := hV.out
      rw [run, hI] at V
      dsimp only at V
      replace V := Lib.hid V
      have PIa : Hid (InsAt wr gi (x26.toNat * 5) I) := Lib.hid (by
        have h := (PI.out pc I hI).below nb
        rwa [show 5 * pc = x26.toNat * 5 by have := h26.out; omega] at h)
      have IOK := Lib.hid (hL I (List.mem_of_getElem? hI))
      have z0 := PIa.out.op
      have z1 := PIa.out.out
      have a1 : (0 ≤ x26) = True := eq_true (by have := h26.out; omega)
      have a2 : (x26 < (L.length : Int)) = True := eq_true (by have := h26.out; have := hpc.out; omega)
      have X2 := (blk_cell M1 1).trans (show _ = some (.slice none 0 0) from rfl)
      have X3 := blk_frozen M1 0
      clear hI
      by_cases o4 : I.op = 4
      · rw [o4] at z0
        replace V := V.out
        rw [if_pos o4] at V
        replace V := Lib.hid V
        clear o4
        go_wp2
        apply wp_goto
        refine And.intro rfl ?_
        show Code.wp Try.prog _ _ _ _
        go_wp2_with (go_at_call 24; refine (free_calls _ _ _ X1 X3).mono ?_; rintro e w3 ⟨rfl, hw⟩)
        (try simp only [Exit.noGoto_ret])
        go_ret
        exact ⟨⟨_, rfl, by have hR := Option.some.inj V.out; rw [← hR]; exact ⟨_, _, _, rfl⟩⟩, below_set nb (Nat.le_refl _)⟩
      · replace V := V.out
        rw [if_neg o4] at V
        replace V := Lib.hid V
        by_cases o7 : I.op = 7
        · rw [o7] at z0
          replace V := V.out
          rw [if_pos o7] at V
          replace V := Lib.hid V
          clear o4 o7
          by_cases hm : mrp I.rs (rn s i) = -1
          · have bm : (mrp I.rs (rn s i) == -1) = true := (by rw [hm]; rfl)
            replace V := V.out
            rw [if_pos hm] at V
            replace V := Lib.hid V
            clear hm
            go_wp2_with ((go_at_call 22; refine (rune_calls _ PIa.out IOK.out.1).mono ?_; rintro e w3 ⟨rfl, rfl⟩))
            apply wp_goto
            refine And.intro rfl ?_
            show Code.wp Try.prog _ _ _ _
            go_wp2_with (go_at_call 24; refine (free_calls _ _ _ X1 X3).mono ?_; rintro e w3 ⟨rfl, hw⟩)
            (try simp only [Exit.noGoto_ret])
            go_ret
            exact ⟨⟨_, rfl, by have hR := Option.some.inj V.out; rw [← hR]; exact rfl⟩, below_set nb (Nat.le_refl _)⟩
          · have bm : (mrp I.rs (rn s i) == -1) = false := (by rw [beq_eq_false_iff_ne]; exact hm)
            replace V := V.out
            rw [if_neg hm] at V
            replace V := Lib.hid V
            clear hm
            by_cases hlt : i < s.size
            · have Wi : wd s i = 1 := if_pos hlt
              have bw : (wd s i == 0) = false := (by rw [Wi]; rfl)
              have hX1 : Hid (wrap64 (x4 + wd s i) = ((i + 1 : Nat) : Int)) := Lib.hid (by rw [Wi, h4.out]; unfold wrap64; omega)
              have hX6 : Hid (wrap64 I.out = ((I.out.toNat : Nat) : Int)) := Lib.hid (by have := IOK.out.2.1; have := IOK.out.2.2.1; unfold wrap64; omega)
              have hP : Hid (I.out.toNat < L.length) := Lib.hid (by have := IOK.out.2.1; have := IOK.out.2.2.1; omega)
              have hI1 : Hid (i + 1 ≤ s.size) := Lib.hid hlt
              have hFl : Hid (fl (rn s i) (rn s (i + 1)) = fl (if i + 1 = 0 then -1 else rn s (i + 1 - 1)) (rn s (i + 1))) := Lib.hid (by rw [if_neg (by omega), Nat.add_sub_cancel])
              replace V := V.out
              rw [if_pos hlt] at V
              replace V := Lib.hid V
              by_cases h2 : i + 1 < s.size
              · have br : (rn s (i + 1) != -1) = true := (by rw [bne_iff_ne]; have := rn_pos h2; omega)
                have W2 : wd s (i + 1) = 1 := if_pos h2
                have e2 : wrap64 (wrap64 (x4 + wd s i) + wd s (i + 1)) = ((i + 1 + 1 : Nat) : Int) := (by rw [hX1.out, W2]; unfold wrap64; omega)
                have S2 : Hid (∀ W, W.cell? ⟨w.heap.size, 0, none⟩ = some (.string s) → Calls Try.prog 48 #[.pointer (some ⟨w.heap.size, 0, none⟩), .int .i64 (wrap64 (wrap64 (x4 + wd s i) + wd s (i + 1)))] W fun e w' => e = .returned (.tuple #[.int .i32 (rn s (i + 1 + 1)), .int .i64 (wd s (i + 1 + 1))]) ∧ w' = W) := Lib.hid (by rw [e2]; exact SC.out (i + 1 + 1))
                clear Wi W2 e2 hlt h2
                go_wp2_with (first | (go_at_call 20; refine (flag_calls _ _ _).mono ?_; rintro e w3 ⟨rfl, rfl⟩) | (go_at_call 48; refine (S2.out _ X1).mono ?_; rintro e w3 ⟨rfl, rfl⟩) | (go_at_call 22; refine (rune_calls _ PIa.out IOK.out.1).mono ?_; rintro e w3 ⟨rfl, rfl⟩))
                go_roundg k1
                case measure => omega
                case rel => exact ⟨I.out.toNat, i + 1, wrap64 (x4 + wd s i), wrap64 I.out, _, rfl, rfl, rfl, rfl, rfl, rfl, rfl, rfl, hX1, hX6, hP, hFl, hI1, V, rfl⟩
              · have br : (rn s (i + 1) != -1) = false := (by rw [bne_eq_false_iff_eq]; exact if_neg h2)
                have q1 : rn s (i + 1) = rn s (i + 1 + 1) := (by rw [show rn s (i + 1) = -1 from if_neg h2, show rn s (i + 1 + 1) = -1 from if_neg (by omega)])
                have q2 : wd s (i + 1) = wd s (i + 1 + 1) := (by rw [show wd s (i + 1) = 0 from if_neg h2, show wd s (i + 1 + 1) = 0 from if_neg (by omega)])
                have Q := Lib.hid (And.intro q1 q2)
                clear Wi hlt h2 q1 q2
                go_wp2_with (first | (go_at_call 20; refine (flag_calls _ _ _).mono ?_; rintro e w3 ⟨rfl, rfl⟩) | (go_at_call 22; refine (rune_calls _ PIa.out IOK.out.1).mono ?_; rintro e w3 ⟨rfl, rfl⟩))
                go_roundg k1
                case measure => omega
                case rel => exact ⟨I.out.toNat, i + 1, wrap64 (x4 + wd s i), wrap64 I.out, _, rfl, rfl, rfl, by rw [← Q.out.1], rfl, by rw [← Q.out.2], rfl, rfl, hX1, hX6, hP, hFl, hI1, V, rfl⟩
            · have Wi : wd s i = 0 := if_neg hlt
              have bw : (wd s i == 0) = true := (by rw [Wi]; rfl)
              replace V := V.out
              rw [if_neg hlt] at V
              replace V := Lib.hid V
              clear Wi hlt
              go_wp2_with (first | (go_at_call 22; refine (rune_calls _ PIa.out IOK.out.1).mono ?_; rintro e w3 ⟨rfl, rfl⟩))
              go_step3
              go_wp2_with (go_at_call 24; refine (free_calls _ _ _ X1 X3).mono ?_; rintro e w3 ⟨rfl, hw⟩)
              simp only [Exit.jump_ret]
              go_ret
              exact ⟨⟨_, rfl, by have hR := Option.some.inj V.out; rw [← hR]; exact rfl⟩, below_set nb (Nat.le_refl _)⟩
        · replace V := V.out
          rw [if_neg o7] at V
          replace V := Lib.hid V
          by_cases o8 : I.op = 8
          · rw [o8] at z0
            have hl1 := IOK.out.2.2.2.1 o8
            obtain ⟨A, c, zr, hr⟩ := PIa.out.rs
            obtain ⟨ad, rfl, zr0⟩ := hr.at 0 (by omega) (by omega)
            have zr1 : wr.cell? ad = some (.int .i32 (rdI I.rs 0)) := (by simpa [Addr.add] using zr0)
            rw [hl1] at zr
            clear zr0 hr
            replace V := V.out
            rw [if_pos o8] at V
            replace V := Lib.hid V
            clear o4 o7 o8
            by_cases hm : rn s i = rdI I.rs 0
            · have bm : (rn s i != rdI I.rs 0) = false := (by rw [hm]; simp)
              replace V := V.out
              rw [if_pos hm] at V
              replace V := Lib.hid V
              clear hm hl1
              by_cases hlt : i < s.size
              · have Wi : wd s i = 1 := if_pos hlt
                have bw : (wd s i == 0) = false := (by rw [Wi]; rfl)
                have hX1 : Hid (wrap64 (x4 + wd s i) = ((i + 1 : Nat) : Int)) := Lib.hid (by rw [Wi, h4.out]; unfold wrap64; omega)
                have hX6 : Hid (wrap64 I.out = ((I.out.toNat : Nat) : Int)) := Lib.hid (by have := IOK.out.2.1; have := IOK.out.2.2.1; unfold wrap64; omega)
                have hP : Hid (I.out.toNat < L.length) := Lib.hid (by have := IOK.out.2.1; have := IOK.out.2.2.1; omega)
                have hI1 : Hid (i + 1 ≤ s.size) := Lib.hid hlt
                have hFl : Hid (fl (rn s i) (rn s (i + 1)) = fl (if i + 1 = 0 then -1 else rn s (i + 1 - 1)) (rn s (i + 1))) := Lib.hid (by rw [if_neg (by omega), Nat.add_sub_cancel])
                replace V := V.out
                rw [if_pos hlt] at V
                replace V := Lib.hid V
                by_cases h2 : i + 1 < s.size
                · have br : (rn s (i + 1) != -1) = true := (by rw [bne_iff_ne]; have := rn_pos h2; omega)
                  have W2 : wd s (i + 1) = 1 := if_pos h2
                  have e2 : wrap64 (wrap64 (x4 + wd s i) + wd s (i + 1)) = ((i + 1 + 1 : Nat) : Int) := (by rw [hX1.out, W2]; unfold wrap64; omega)
                  have S2 : Hid (∀ W, W.cell? ⟨w.heap.size, 0, none⟩ = some (.string s) → Calls Try.prog 48 #[.pointer (some ⟨w.heap.size, 0, none⟩), .int .i64 (wrap64 (wrap64 (x4 + wd s i) + wd s (i + 1)))] W fun e w' => e = .returned (.tuple #[.int .i32 (rn s (i + 1 + 1)), .int .i64 (wd s (i + 1 + 1))]) ∧ w' = W) := Lib.hid (by rw [e2]; exact SC.out (i + 1 + 1))
                  clear Wi W2 e2 hlt h2
                  go_wp2_with (first | (go_at_call 20; refine (flag_calls _ _ _).mono ?_; rintro e w3 ⟨rfl, rfl⟩) | (go_at_call 48; refine (S2.out _ X1).mono ?_; rintro e w3 ⟨rfl, rfl⟩))
                  go_roundg k1
                  case measure => omega
                  case rel => exact ⟨I.out.toNat, i + 1, wrap64 (x4 + wd s i), wrap64 I.out, _, rfl, rfl, rfl, rfl, rfl, rfl, rfl, rfl, hX1, hX6, hP, hFl, hI1, V, rfl⟩
                · have br : (rn s (i + 1) != -1) = false := (by rw [bne_eq_false_iff_eq]; exact if_neg h2)
                  have q1 : rn s (i + 1) = rn s (i + 1 + 1) := (by rw [show rn s (i + 1) = -1 from if_neg h2, show rn s (i + 1 + 1) = -1 from if_neg (by omega)])
                  have q2 : wd s (i + 1) = wd s (i + 1 + 1) := (by rw [show wd s (i + 1) = 0 from if_neg h2, show wd s (i + 1 + 1) = 0 from if_neg (by omega)])
                  have Q := Lib.hid (And.intro q1 q2)
                  clear Wi hlt h2 q1 q2
                  go_wp2_with (first | (go_at_call 20; refine (flag_calls _ _ _).mono ?_; rintro e w3 ⟨rfl, rfl⟩))
                  go_roundg k1
                  case measure => omega
                  case rel => exact ⟨I.out.toNat, i + 1, wrap64 (x4 + wd s i), wrap64 I.out, _, rfl, rfl, rfl, by rw [← Q.out.1], rfl, by rw [← Q.out.2], rfl, rfl, hX1, hX6, hP, hFl, hI1, V, rfl⟩
              · have Wi : wd s i = 0 := if_neg hlt
                have bw : (wd s i == 0) = true := (by rw [Wi]; rfl)
                replace V := V.out
                rw [if_neg hlt] at V
                replace V := Lib.hid V
                clear Wi hlt
                go_wp2
                go_step3
                go_wp2_with (go_at_call 24; refine (free_calls _ _ _ X1 X3).mono ?_; rintro e w3 ⟨rfl, hw⟩)
                simp only [Exit.jump_ret]
                go_ret
                exact ⟨⟨_, rfl, by have hR := Option.some.inj V.out; rw [← hR]; exact rfl⟩, below_set nb (Nat.le_refl _)⟩
            · have bm : (rn s i != rdI I.rs 0) = true := (by rw [bne_iff_ne]; exact hm)
              replace V := V.out
              rw [if_neg hm] at V
              replace V := Lib.hid V
              clear hm hl1
              go_wp2
              apply wp_goto
              refine And.intro rfl ?_
              show Code.wp Try.prog _ _ _ _
              go_wp2_with (go_at_call 24; refine (free_calls _ _ _ X1 X3).mono ?_; rintro e w3 ⟨rfl, hw⟩)
              (try simp only [Exit.noGoto_ret])
              go_ret
              exact ⟨⟨_, rfl, by have hR := Option.some.inj V.out; rw [← hR]; exact rfl⟩, below_set nb (Nat.le_refl _)⟩
          · replace V := V.out
            rw [if_neg o8] at V
            replace V := Lib.hid V
            by_cases o0 : I.op = 0 ∨ I.op = 1
            · replace V := V.out
              rw [if_pos o0] at V
              replace V := Lib.hid V
              have hN := IOK.out.2.2.2.2 o0 (rn s i) (RN.out i).1 (RN.out i).2
              have HN := Lib.hid hN.1
              have hX6 : Hid (wrap64 (opn I (rn s i)) = (((opn I (rn s i)).toNat : Nat) : Int)) := Lib.hid (by have := hN.2.1; have := hN.2.2; unfold wrap64; omega)
              have hP : Hid ((opn I (rn s i)).toNat < L.length) := Lib.hid (by have := hN.2.1; have := hN.2.2; omega)
              clear hN o4 o7 o8
              rcases o0 with o0 | o0
              · rw [o0] at z0
                clear o0
                go_wp2_with ((go_at_call 23; refine (next_calls _ PIa.out IOK.out.1 HN.out).mono ?_; rintro e w3 ⟨rfl, rfl⟩))
                go_roundg k1
                case measure => omega
                case rel => exact ⟨(opn I (rn s i)).toNat, i, x4, wrap64 (opn I (rn s i)), F, rfl, rfl, rfl, rfl, rfl, rfl, rfl, rfl, h4, hX6, hP, hF, hi, V, rfl⟩
              · rw [o0] at z0
                clear o0
                go_wp2_with ((go_at_call 23; refine (next_calls _ PIa.out IOK.out.1 HN.out).mono ?_; rintro e w3 ⟨rfl, rfl⟩))
                go_roundg k1
                case measure => omega
                case rel => exact ⟨(opn I (rn s i)).toNat, i, x4, wrap64 (opn I (rn s i)), F, rfl, rfl, rfl, rfl, rfl, rfl, rfl, rfl, h4, hX6, hP, hF, hi, V, rfl⟩
            · replace V := V.out
              rw [if_neg o0] at V
              replace V := Lib.hid V
              by_cases o5 : I.op = 5
              · rw [o5] at z0
                replace V := V.out
                rw [if_pos o5] at V
                replace V := Lib.hid V
                clear o4 o7 o8 o0 o5
                go_wp2
                apply wp_goto
                refine And.intro rfl ?_
                show Code.wp Try.prog _ _ _ _
                go_wp2_with (go_at_call 24; refine (free_calls _ _ _ X1 X3).mono ?_; rintro e w3 ⟨rfl, hw⟩)
                (try simp only [Exit.noGoto_ret])
                go_ret
                exact ⟨⟨_, rfl, by have hR := Option.some.inj V.out; rw [← hR]; exact rfl⟩, below_set nb (Nat.le_refl _)⟩
              · replace V := V.out
                rw [if_neg o5] at V
                replace V := Lib.hid V
                by_cases o3 : I.op = 3
                · rw [o3] at z0
                  replace V := V.out
                  rw [if_pos o3] at V
                  replace V := Lib.hid V
                  clear o4 o7 o8 o0 o5 o3
                  have z2 := PIa.out.arg
                  have hX6 : Hid (wrap64 I.out = ((I.out.toNat : Nat) : Int)) := Lib.hid (by have := IOK.out.2.1; have := IOK.out.2.2.1; unfold wrap64; omega)
                  have hP : Hid (I.out.toNat < L.length) := Lib.hid (by have := IOK.out.2.1; have := IOK.out.2.2.1; omega)
                  have fp := fl_parts (a := if i = 0 then -1 else rn s (i - 1)) (b := rn s i) (by split; omega; exact RN.out _) (RN.out i)
                  rw [← hF.out] at fp
                  by_cases ha : I.arg = 4
                  · rw [ha] at z2
                    replace V := V.out
                    rw [if_pos ha] at V
                    replace V := Lib.hid V
                    clear ha
                    by_cases h0 : i = 0
                    · have D : decide (wrap32 (F / 4294967296) < 0) = true := (by rw [fp.1, if_pos h0]; decide)
                      replace V := V.out
                      rw [if_pos h0] at V
                      replace V := Lib.hid V
                      clear fp h0
                      go_wp2_with ((go_at_call 21; refine (match4_calls _ _).mono ?_; rintro e w3 ⟨rfl, rfl⟩))
                      go_roundg k1
                      case measure => omega
                      case rel => exact ⟨I.out.toNat, i, x4, wrap64 I.out, F, rfl, rfl, rfl, rfl, rfl, rfl, rfl, rfl, h4, hX6, hP, hF, hi, V, rfl⟩
                    · have D : decide (wrap32 (F / 4294967296) < 0) = false := (by rw [fp.1, if_neg h0]; apply decide_eq_false; have := hi.out; have := rn_pos (s := s) (i := i - 1) (by omega); omega)
                      replace V := V.out
                      rw [if_neg h0] at V
                      replace V := Lib.hid V
                      clear fp h0
                      go_wp2_with ((go_at_call 21; refine (match4_calls _ _).mono ?_; rintro e w3 ⟨rfl, rfl⟩))
                      apply wp_goto
                      refine And.intro rfl ?_
                      show Code.wp Try.prog _ _ _ _
                      go_wp2_with (go_at_call 24; refine (free_calls _ _ _ X1 X3).mono ?_; rintro e w3 ⟨rfl, hw⟩)
                      (try simp only [Exit.noGoto_ret])
                      go_ret
                      exact ⟨⟨_, rfl, by have hR := Option.some.inj V.out; rw [← hR]; exact rfl⟩, below_set nb (Nat.le_refl _)⟩
                  · replace V := V.out
                    rw [if_neg ha] at V
                    replace V := Lib.hid V
                    by_cases hb : I.arg = 8
                    · rw [hb] at z2
                      replace V := V.out
                      rw [if_pos hb] at V
                      replace V := Lib.hid V
                      clear ha hb
                      by_cases h0 : rn s i < 0
                      · have D : decide (wrap32 F < 0) = true := (by rw [fp.2]; exact decide_eq_true h0)
                        replace V := V.out
                        rw [if_pos h0] at V
                        replace V := Lib.hid V
                        clear fp h0
                        go_wp2_with ((go_at_call 21; refine (match8_calls _ _).mono ?_; rintro e w3 ⟨rfl, rfl⟩))
                        go_roundg k1
                        case measure => omega
                        case rel => exact ⟨I.out.toNat, i, x4, wrap64 I.out, F, rfl, rfl, rfl, rfl, rfl, rfl, rfl, rfl, h4, hX6, hP, hF, hi, V, rfl⟩
                      · have D : decide (wrap32 F < 0) = false := (by rw [fp.2]; exact decide_eq_false h0)
                        replace V := V.out
                        rw [if_neg h0] at V
                        replace V := Lib.hid V
                        clear fp h0
                        go_wp2_with ((go_at_call 21; refine (match8_calls _ _).mono ?_; rintro e w3 ⟨rfl, rfl⟩))
                        apply wp_goto
                        refine And.intro rfl ?_
                        show Code.wp Try.prog _ _ _ _
                        go_wp2_with (go_at_call 24; refine (free_calls _ _ _ X1 X3).mono ?_; rintro e w3 ⟨rfl, hw⟩)
                        (try simp only [Exit.noGoto_ret])
                        go_ret
                        exact ⟨⟨_, rfl, by have hR := Option.some.inj V.out; rw [← hR]; exact rfl⟩, below_set nb (Nat.le_refl _)⟩
                    · exact absurd (if_neg hb ▸ V.out) (by simp)
                · exact absurd (if_neg o3 ▸ V.out) (by simp)
end Go.Proofs.Ytecokmgminakpaa.H
