-- Written by a program of this session (wip/patch_print.py, after the kit's print), not by hand.
import Derived.Test.YtbdlcbllcjpaaaaDoorPGx0
import Derived.Test.YtbdlcbllcjpaaaaDoorPGx3
import Derived.Test.YtbdlcbllcjpaaaaDoorPGx5
import Derived.Test.YtbdlcbllcjpaaaaDoorHaByte
import Derived.WalkMore
namespace Go.Proofs.YtbdlcbllcjpaaaaDoor.PG
open Go.Proofs.YtbdlcbllcjpaaaaDoor.H
open Go.RowKit Go.Proofs.YtbdlcbllcjpaaaaDoorW.PrintWords Go.Proofs.YtbdlcbllcjpaaaaDoorW.PrintLast Go.Proofs.YtbdlcbllcjpaaaaDoorW.PrintMore
attribute [local go_sem] max2_int min2_int max_two min_two max_three min_three max_four min_four   -- for this text's walks alone
set_option linter.unusedVariables false
set_option linter.unusedSimpArgs false

/-! ### path_Match: function 13 -/
mutual
def path_Match.l0 : Nat → ByteArray → ByteArray → Option (Bool × Option Int)
  | 0, _, _ => none
  | k + 1, x0, x1 => if (x0.size : Int) > 0 then ((path_scanChunk.f k x0).bind fun bt166 => (if bt166.1 = true then (path_Match.j1 k bt166.2.2 x1 bt166.1 bt166.2.1 (bt166.2.1.toList == ([] : List UInt8))) else (path_Match.j1 k bt166.2.2 x1 bt166.1 bt166.2.1 false))) else (some (((x1.size : Int) == 0), none))
def path_Match.j1 : Nat → ByteArray → ByteArray → Bool → ByteArray → Bool → Option (Bool × Option Int)
  | 0, _, _, _, _, _ => none
  | k + 1, x0, x1, x6, x7, x31 => if x31 = true then ((bytealg_IndexByteString.f x1 47).bind fun t169 => (some (decide (t169 < 0), none))) else ((path_matchChunk.f k x7 x1).bind fun bt170 => (if bt170.2.1 = true then (if (bt170.1.size : Int) = 0 then (path_Match.j2 k x0 x1 x6 x7 bt170.1 bt170.2.2 true) else (path_Match.j2 k x0 x1 x6 x7 bt170.1 bt170.2.2 (decide ((x0.size : Int) > 0)))) else (path_Match.j2 k x0 x1 x6 x7 bt170.1 bt170.2.2 false)))
def path_Match.j2 : Nat → ByteArray → ByteArray → Bool → ByteArray → ByteArray → Option Int → Bool → Option (Bool × Option Int)
  | 0, _, _, _, _, _, _, _ => none
  | k + 1, x0, x1, x6, x7, x8, x10, x52 => if x52 = true then (path_Match.l0 k x0 x8) else (if x10.isNone = true then (if x6 = true then (path_Match.l1 k x0 x1 x7 0) else (path_Match.j6 k x0)) else (some (false, some (x10.getD 0))))
def path_Match.j6 : Nat → ByteArray → Option (Bool × Option Int)
  | 0, _ => none
  | k + 1, x0 => path_Match.l2 k x0
def path_Match.l2 : Nat → ByteArray → Option (Bool × Option Int)
  | 0, _ => none
  | k + 1, x0 => if (x0.size : Int) > 0 then ((path_scanChunk.f k x0).bind fun bt178 => ((path_matchChunk.f k bt178.2.1 (⟨#[]⟩ : ByteArray)).bind fun bt181 => (if bt181.2.2.isNone = true then (path_Match.l2 k bt178.2.2) else (some (false, some (bt181.2.2.getD 0)))))) else (some (false, none))
def path_Match.l1 : Nat → ByteArray → ByteArray → ByteArray → Int → Option (Bool × Option Int)
  | 0, _, _, _, _ => none
  | k + 1, x0, x1, x7, x11 => if x11 < (x1.size : Int) then (if 0 ≤ x11 then (path_Match.j4 k x0 x1 x7 x11 ((bt x1 x11) != 47)) else (none)) else (path_Match.j4 k x0 x1 x7 x11 false)
def path_Match.j4 : Nat → ByteArray → ByteArray → ByteArray → Int → Bool → Option (Bool × Option Int)
  | 0, _, _, _, _, _ => none
  | k + 1, x0, x1, x7, x11, x67 => if x67 = true then (if 0 ≤ (wrap64 (x11 + 1)) then (if (wrap64 (x11 + 1)) ≤ (x1.size : Int) then ((path_matchChunk.f k x7 (x1.extract ((wrap64 (x11 + 1)) : Int).toNat x1.size)).bind fun bt174 => (if bt174.2.1 = true then (if (x0.size : Int) = 0 then (path_Match.j5 k x0 x1 x7 x11 bt174.1 (decide ((bt174.1.size : Int) > 0))) else (path_Match.j5 k x0 x1 x7 x11 bt174.1 false)) else (if bt174.2.2.isNone = true then (path_Match.l1 k x0 x1 x7 (wrap64 (x11 + 1))) else (some (false, some (bt174.2.2.getD 0)))))) else (none)) else (none)) else (path_Match.j6 k x0)
def path_Match.j5 : Nat → ByteArray → ByteArray → ByteArray → Int → ByteArray → Bool → Option (Bool × Option Int)
  | 0, _, _, _, _, _, _ => none
  | k + 1, x0, x1, x7, x11, x12, x88 => if x88 = true then (path_Match.l1 k x0 x1 x7 (wrap64 (x11 + 1))) else (path_Match.l0 k x0 x12)
end
def path_Match.f (k : Nat) (a0 : ByteArray) (a1 : ByteArray) : Option (Bool × Option Int) := path_Match.l0 k a0 a1
theorem path_Match.mono_l : ∀ k, (∀ y0 y1, LeO (path_Match.l0 k y0 y1) (path_Match.l0 (k + 1) y0 y1)) ∧ (∀ y0 y1 y2 y3 y4, LeO (path_Match.j1 k y0 y1 y2 y3 y4) (path_Match.j1 (k + 1) y0 y1 y2 y3 y4)) ∧ (∀ y0 y1 y2 y3 y4 y5 y6, LeO (path_Match.j2 k y0 y1 y2 y3 y4 y5 y6) (path_Match.j2 (k + 1) y0 y1 y2 y3 y4 y5 y6)) ∧ (∀ y0, LeO (path_Match.j6 k y0) (path_Match.j6 (k + 1) y0)) ∧ (∀ y0, LeO (path_Match.l2 k y0) (path_Match.l2 (k + 1) y0)) ∧ (∀ y0 y1 y2 y3, LeO (path_Match.l1 k y0 y1 y2 y3) (path_Match.l1 (k + 1) y0 y1 y2 y3)) ∧ (∀ y0 y1 y2 y3 y4, LeO (path_Match.j4 k y0 y1 y2 y3 y4) (path_Match.j4 (k + 1) y0 y1 y2 y3 y4)) ∧ (∀ y0 y1 y2 y3 y4 y5, LeO (path_Match.j5 k y0 y1 y2 y3 y4 y5) (path_Match.j5 (k + 1) y0 y1 y2 y3 y4 y5))
  | 0 => ⟨fun _ _ r h => by simp [path_Match.l0] at h, fun _ _ _ _ _ r h => by simp [path_Match.j1] at h, fun _ _ _ _ _ _ _ r h => by simp [path_Match.j2] at h, fun _ r h => by simp [path_Match.j6] at h, fun _ r h => by simp [path_Match.l2] at h, fun _ _ _ _ r h => by simp [path_Match.l1] at h, fun _ _ _ _ _ r h => by simp [path_Match.j4] at h, fun _ _ _ _ _ _ r h => by simp [path_Match.j5] at h⟩
  | k + 1 => by
    obtain ⟨ih0, ih1, ih2, ih3, ih4, ih5, ih6, ih7⟩ := path_Match.mono_l k
    refine ⟨?_, ?_, ?_, ?_, ?_, ?_, ?_, ?_⟩
    · intro y0 y1
      unfold path_Match.l0
      repeat' first
      | (with_reducible exact ih0 _ _)
      | (with_reducible exact ih1 _ _ _ _ _)
      | (with_reducible exact ih2 _ _ _ _ _ _ _)
      | (with_reducible exact ih3 _)
      | (with_reducible exact ih4 _)
      | (with_reducible exact ih5 _ _ _ _)
      | (with_reducible exact ih6 _ _ _ _ _)
      | (with_reducible exact ih7 _ _ _ _ _ _)
      | (with_reducible exact path_matchChunk.mono _ _ _)
      | (with_reducible exact path_scanChunk.mono _ _)
      | (with_reducible exact LeO.refl _)
      | (with_reducible exact LeO.none _)
      | (with_reducible refine LeO.ite ?_ ?_)
      | (with_reducible refine LeO.bind ?_ (fun _ => ?_))
      | exact ih0 _ _
      | exact ih1 _ _ _ _ _
      | exact ih2 _ _ _ _ _ _ _
      | exact ih3 _
      | exact ih4 _
      | exact ih5 _ _ _ _
      | exact ih6 _ _ _ _ _
      | exact ih7 _ _ _ _ _ _
      | exact path_matchChunk.mono _ _ _
      | exact path_scanChunk.mono _ _
      | exact LeO.none _
      | refine LeO.ite ?_ ?_
      | refine LeO.bind ?_ (fun _ => ?_)
    · intro y0 y1 y2 y3 y4
      unfold path_Match.j1
      repeat' first
      | (with_reducible exact ih0 _ _)
      | (with_reducible exact ih1 _ _ _ _ _)
      | (with_reducible exact ih2 _ _ _ _ _ _ _)
      | (with_reducible exact ih3 _)
      | (with_reducible exact ih4 _)
      | (with_reducible exact ih5 _ _ _ _)
      | (with_reducible exact ih6 _ _ _ _ _)
      | (with_reducible exact ih7 _ _ _ _ _ _)
      | (with_reducible exact path_matchChunk.mono _ _ _)
      | (with_reducible exact path_scanChunk.mono _ _)
      | (with_reducible exact LeO.refl _)
      | (with_reducible exact LeO.none _)
      | (with_reducible refine LeO.ite ?_ ?_)
      | (with_reducible refine LeO.bind ?_ (fun _ => ?_))
      | exact ih0 _ _
      | exact ih1 _ _ _ _ _
      | exact ih2 _ _ _ _ _ _ _
      | exact ih3 _
      | exact ih4 _
      | exact ih5 _ _ _ _
      | exact ih6 _ _ _ _ _
      | exact ih7 _ _ _ _ _ _
      | exact path_matchChunk.mono _ _ _
      | exact path_scanChunk.mono _ _
      | exact LeO.none _
      | refine LeO.ite ?_ ?_
      | refine LeO.bind ?_ (fun _ => ?_)
    · intro y0 y1 y2 y3 y4 y5 y6
      unfold path_Match.j2
      repeat' first
      | (with_reducible exact ih0 _ _)
      | (with_reducible exact ih1 _ _ _ _ _)
      | (with_reducible exact ih2 _ _ _ _ _ _ _)
      | (with_reducible exact ih3 _)
      | (with_reducible exact ih4 _)
      | (with_reducible exact ih5 _ _ _ _)
      | (with_reducible exact ih6 _ _ _ _ _)
      | (with_reducible exact ih7 _ _ _ _ _ _)
      | (with_reducible exact path_matchChunk.mono _ _ _)
      | (with_reducible exact path_scanChunk.mono _ _)
      | (with_reducible exact LeO.refl _)
      | (with_reducible exact LeO.none _)
      | (with_reducible refine LeO.ite ?_ ?_)
      | (with_reducible refine LeO.bind ?_ (fun _ => ?_))
      | exact ih0 _ _
      | exact ih1 _ _ _ _ _
      | exact ih2 _ _ _ _ _ _ _
      | exact ih3 _
      | exact ih4 _
      | exact ih5 _ _ _ _
      | exact ih6 _ _ _ _ _
      | exact ih7 _ _ _ _ _ _
      | exact path_matchChunk.mono _ _ _
      | exact path_scanChunk.mono _ _
      | exact LeO.none _
      | refine LeO.ite ?_ ?_
      | refine LeO.bind ?_ (fun _ => ?_)
    · intro y0
      unfold path_Match.j6
      repeat' first
      | (with_reducible exact ih0 _ _)
      | (with_reducible exact ih1 _ _ _ _ _)
      | (with_reducible exact ih2 _ _ _ _ _ _ _)
      | (with_reducible exact ih3 _)
      | (with_reducible exact ih4 _)
      | (with_reducible exact ih5 _ _ _ _)
      | (with_reducible exact ih6 _ _ _ _ _)
      | (with_reducible exact ih7 _ _ _ _ _ _)
      | (with_reducible exact path_matchChunk.mono _ _ _)
      | (with_reducible exact path_scanChunk.mono _ _)
      | (with_reducible exact LeO.refl _)
      | (with_reducible exact LeO.none _)
      | (with_reducible refine LeO.ite ?_ ?_)
      | (with_reducible refine LeO.bind ?_ (fun _ => ?_))
      | exact ih0 _ _
      | exact ih1 _ _ _ _ _
      | exact ih2 _ _ _ _ _ _ _
      | exact ih3 _
      | exact ih4 _
      | exact ih5 _ _ _ _
      | exact ih6 _ _ _ _ _
      | exact ih7 _ _ _ _ _ _
      | exact path_matchChunk.mono _ _ _
      | exact path_scanChunk.mono _ _
      | exact LeO.none _
      | refine LeO.ite ?_ ?_
      | refine LeO.bind ?_ (fun _ => ?_)
    · intro y0
      unfold path_Match.l2
      repeat' first
      | (with_reducible exact ih0 _ _)
      | (with_reducible exact ih1 _ _ _ _ _)
      | (with_reducible exact ih2 _ _ _ _ _ _ _)
      | (with_reducible exact ih3 _)
      | (with_reducible exact ih4 _)
      | (with_reducible exact ih5 _ _ _ _)
      | (with_reducible exact ih6 _ _ _ _ _)
      | (with_reducible exact ih7 _ _ _ _ _ _)
      | (with_reducible exact path_matchChunk.mono _ _ _)
      | (with_reducible exact path_scanChunk.mono _ _)
      | (with_reducible exact LeO.refl _)
      | (with_reducible exact LeO.none _)
      | (with_reducible refine LeO.ite ?_ ?_)
      | (with_reducible refine LeO.bind ?_ (fun _ => ?_))
      | exact ih0 _ _
      | exact ih1 _ _ _ _ _
      | exact ih2 _ _ _ _ _ _ _
      | exact ih3 _
      | exact ih4 _
      | exact ih5 _ _ _ _
      | exact ih6 _ _ _ _ _
      | exact ih7 _ _ _ _ _ _
      | exact path_matchChunk.mono _ _ _
      | exact path_scanChunk.mono _ _
      | exact LeO.none _
      | refine LeO.ite ?_ ?_
      | refine LeO.bind ?_ (fun _ => ?_)
    · intro y0 y1 y2 y3
      unfold path_Match.l1
      repeat' first
      | (with_reducible exact ih0 _ _)
      | (with_reducible exact ih1 _ _ _ _ _)
      | (with_reducible exact ih2 _ _ _ _ _ _ _)
      | (with_reducible exact ih3 _)
      | (with_reducible exact ih4 _)
      | (with_reducible exact ih5 _ _ _ _)
      | (with_reducible exact ih6 _ _ _ _ _)
      | (with_reducible exact ih7 _ _ _ _ _ _)
      | (with_reducible exact path_matchChunk.mono _ _ _)
      | (with_reducible exact path_scanChunk.mono _ _)
      | (with_reducible exact LeO.refl _)
      | (with_reducible exact LeO.none _)
      | (with_reducible refine LeO.ite ?_ ?_)
      | (with_reducible refine LeO.bind ?_ (fun _ => ?_))
      | exact ih0 _ _
      | exact ih1 _ _ _ _ _
      | exact ih2 _ _ _ _ _ _ _
      | exact ih3 _
      | exact ih4 _
      | exact ih5 _ _ _ _
      | exact ih6 _ _ _ _ _
      | exact ih7 _ _ _ _ _ _
      | exact path_matchChunk.mono _ _ _
      | exact path_scanChunk.mono _ _
      | exact LeO.none _
      | refine LeO.ite ?_ ?_
      | refine LeO.bind ?_ (fun _ => ?_)
    · intro y0 y1 y2 y3 y4
      unfold path_Match.j4
      repeat' first
      | (with_reducible exact ih0 _ _)
      | (with_reducible exact ih1 _ _ _ _ _)
      | (with_reducible exact ih2 _ _ _ _ _ _ _)
      | (with_reducible exact ih3 _)
      | (with_reducible exact ih4 _)
      | (with_reducible exact ih5 _ _ _ _)
      | (with_reducible exact ih6 _ _ _ _ _)
      | (with_reducible exact ih7 _ _ _ _ _ _)
      | (with_reducible exact path_matchChunk.mono _ _ _)
      | (with_reducible exact path_scanChunk.mono _ _)
      | (with_reducible exact LeO.refl _)
      | (with_reducible exact LeO.none _)
      | (with_reducible refine LeO.ite ?_ ?_)
      | (with_reducible refine LeO.bind ?_ (fun _ => ?_))
      | exact ih0 _ _
      | exact ih1 _ _ _ _ _
      | exact ih2 _ _ _ _ _ _ _
      | exact ih3 _
      | exact ih4 _
      | exact ih5 _ _ _ _
      | exact ih6 _ _ _ _ _
      | exact ih7 _ _ _ _ _ _
      | exact path_matchChunk.mono _ _ _
      | exact path_scanChunk.mono _ _
      | exact LeO.none _
      | refine LeO.ite ?_ ?_
      | refine LeO.bind ?_ (fun _ => ?_)
    · intro y0 y1 y2 y3 y4 y5
      unfold path_Match.j5
      repeat' first
      | (with_reducible exact ih0 _ _)
      | (with_reducible exact ih1 _ _ _ _ _)
      | (with_reducible exact ih2 _ _ _ _ _ _ _)
      | (with_reducible exact ih3 _)
      | (with_reducible exact ih4 _)
      | (with_reducible exact ih5 _ _ _ _)
      | (with_reducible exact ih6 _ _ _ _ _)
      | (with_reducible exact ih7 _ _ _ _ _ _)
      | (with_reducible exact path_matchChunk.mono _ _ _)
      | (with_reducible exact path_scanChunk.mono _ _)
      | (with_reducible exact LeO.refl _)
      | (with_reducible exact LeO.none _)
      | (with_reducible refine LeO.ite ?_ ?_)
      | (with_reducible refine LeO.bind ?_ (fun _ => ?_))
      | exact ih0 _ _
      | exact ih1 _ _ _ _ _
      | exact ih2 _ _ _ _ _ _ _
      | exact ih3 _
      | exact ih4 _
      | exact ih5 _ _ _ _
      | exact ih6 _ _ _ _ _
      | exact ih7 _ _ _ _ _ _
      | exact path_matchChunk.mono _ _ _
      | exact path_scanChunk.mono _ _
      | exact LeO.none _
      | refine LeO.ite ?_ ?_
      | refine LeO.bind ?_ (fun _ => ?_)
theorem path_Match.mono : ∀ a0 a1 k, LeO (path_Match.f k a0 a1) (path_Match.f (k + 1) a0 a1) := by
  intro a0 a1 k
  obtain ⟨ih0, ih1, ih2, ih3, ih4, ih5, ih6, ih7⟩ := path_Match.mono_l k
  unfold path_Match.f
  repeat' first
      | (with_reducible exact ih0 _ _)
      | (with_reducible exact ih1 _ _ _ _ _)
      | (with_reducible exact ih2 _ _ _ _ _ _ _)
      | (with_reducible exact ih3 _)
      | (with_reducible exact ih4 _)
      | (with_reducible exact ih5 _ _ _ _)
      | (with_reducible exact ih6 _ _ _ _ _)
      | (with_reducible exact ih7 _ _ _ _ _ _)
      | (with_reducible exact path_matchChunk.mono _ _ _)
      | (with_reducible exact path_scanChunk.mono _ _)
      | (with_reducible exact LeO.refl _)
      | (with_reducible exact LeO.none _)
      | (with_reducible refine LeO.ite ?_ ?_)
      | (with_reducible refine LeO.bind ?_ (fun _ => ?_))
      | exact ih0 _ _
      | exact ih1 _ _ _ _ _
      | exact ih2 _ _ _ _ _ _ _
      | exact ih3 _
      | exact ih4 _
      | exact ih5 _ _ _ _
      | exact ih6 _ _ _ _ _
      | exact ih7 _ _ _ _ _ _
      | exact path_matchChunk.mono _ _ _
      | exact path_scanChunk.mono _ _
      | exact LeO.none _
      | refine LeO.ite ?_ ?_
      | refine LeO.bind ?_ (fun _ => ?_)
set_option maxHeartbeats 8000000 in
set_option maxRecDepth 100000 in
theorem path_Match.calls (k : Nat) (a0 : ByteArray) (a1 : ByteArray) (r1 : Bool) (r2 : Option Int) (w : World) (h : path_Match.f k a0 a1 = some (r1, r2)) :
    Calls Tryd.prog 13 #[.string a0, .string a1] w fun e w' => e = .returned (.tuple #[.bool r1, errW r2]) ∧ Below w.heap.size w w' := by
  have hu37 := Tryd.underlying37
  have HB := Aside0.mk (Below.refl w.heap.size w)
  have H : (path_Match.l0 k a0 a1) = some (r1, r2) := h
  clear h
  have H' := Aside0.mk H
  clear H
  go_enter Tryd.func13, Tryd.ntmps13
  go_wp2
  go_step3
  go_wp2
  go_step3
  go_wp2
  go_loopg [0, 1] k (fun kq v0 v1 w' => ∃ (x0_1 : ByteArray) (x1_1 : ByteArray), v0 = .string x0_1 ∧ v1 = .string x1_1 ∧ Aside0 (path_Match.l0 kq x0_1 x1_1 = some (r1, r2)) ∧ Aside0 (kq ≤ k) ∧ Aside0 (Below w.heap.size w w'))
  case atStart => exact ⟨(a0), (a1), (by first | rfl | (simp; done) | (simp [*]; done)), (by first | rfl | (simp; done) | (simp [*]; done)), H', ⟨Nat.le_refl _⟩, ⟨by repeat (first | (with_reducible first | exact HB.out | apply below_alloc | apply pw_below_drewN | apply below_drew1) | exact HB.out)⟩⟩
  case round =>
    clear H'
    try clear c1
    try clear p2
    obtain ⟨x0_1, x1_1, rfl, rfl, HA, HK1, HB⟩ := hrel
    cases gk with
    | zero => exact absurd HA.out (by simp [path_Match.l0])
    | succ k1 =>
      have H := HA.out
      clear HA
      simp only [path_Match.l0] at H
      by_cases c3 : (x0_1.size : Int) > 0
      · rw [if_pos c3] at H
        have c3b0 : decide (0 < (x0_1.size : Int)) = true := decide_eq_true c3
        have c3b1 : decide (0 < x0_1.size) = true := decide_eq_true (by omega)
        clear c3
        replace H := Option.bind_eq_some_iff.mp H
        obtain ⟨⟨t166, t167, t168⟩, A40, H⟩ := H
        replace H : (if t166 = true then (path_Match.j1 k1 t168 x1_1 t166 t167 (t167.toList == ([] : List UInt8))) else (path_Match.j1 k1 t168 x1_1 t166 t167 false)) = some (r1, r2) := H
        have A4 := Aside0.mk A40
        clear A40
        have HC5 := Aside0.mk H
        clear H
        go_upto_region 5 with (first | ((with_reducible refine gate_callee (f := 17) rfl ?_); refine goesL_ (some 23) rfl rfl Tryd.func17 (by kernel_rfl) rfl #[.string x0_1] rfl (by (try simp only [List.map_toArray, List.map_cons, List.map_nil]); first | done | rfl | (simp only [List.length_drop, List.length_take]; rfl)) ?_; (with_reducible refine (path_scanChunk.calls k1 x0_1 t166 t167 t168 _ A4.out).mono ?_); rintro e w' ⟨rfl, ⟨nd, rfl⟩⟩; refine ⟨_, rfl, ?_⟩))
        (try simp only [Act.put, List.setIfInBounds_toArray, List.set_cons_zero, List.set_cons_succ])
        go_cut [31] (fun v31 wc => ∃ (kq : Nat) (x31_4 : Bool), v31 = .bool x31_4 ∧ Aside0 (path_Match.j1 kq t168 x1_1 t166 t167 x31_4 = some (r1, r2)) ∧ Aside0 (kq ≤ k1) ∧ Aside0 (Below w.heap.size w wc))
        case first =>
          have H := HC5.out
          clear HC5
          by_cases c6 : t166 = true
          · subst c6
            have H1 : (path_Match.j1 k1 t168 x1_1 true t167 (t167.toList == ([] : List UInt8))) = some (r1, r2) := by rw [if_pos rfl] at H; exact H
            clear H
            have H := H1
            clear H1
            have H' := Aside0.mk H
            clear H
            go_wp2
            go_meet
            case rel => exact ⟨_, ((t167.toList == ([] : List UInt8))), (by first | rfl | (simp; done) | (simp [*]; done)), H', ⟨by have := HK1.out; first | omega | exact Nat.le_refl _⟩, ⟨by repeat (first | (with_reducible first | exact HB.out | apply below_alloc | apply pw_below_drewN | apply below_drew1) | exact HB.out)⟩⟩
          · replace c6 := Bool.eq_false_iff.mpr c6
            subst c6
            have H1 : (path_Match.j1 k1 t168 x1_1 false t167 false) = some (r1, r2) := by rw [if_neg (show ¬ (false = true) by decide)] at H; exact H
            clear H
            have H := H1
            clear H1
            have H' := Aside0.mk H
            clear H
            go_wp2
            go_meet
            case rel => exact ⟨_, (false), (by first | rfl | (simp; done) | (simp [*]; done)), H', ⟨by have := HK1.out; first | omega | exact Nat.le_refl _⟩, ⟨by repeat (first | (with_reducible first | exact HB.out | apply below_alloc | apply pw_below_drewN | apply below_drew1) | exact HB.out)⟩⟩
        case rest =>
          clear HC5
          try clear c1
          try clear p2
          try clear c3
          try clear c3b0
          try clear c3b1
          try clear c6
          try clear p2
          obtain ⟨kq, x31_4, rfl, HA, HJ4, HB⟩ := hcut
          cases kq with
          | zero => exact absurd HA.out (by simp [path_Match.j1])
          | succ kj4 =>
            have H := HA.out
            clear HA
            simp only [path_Match.j1] at H
            by_cases c7 : x31_4 = true
            · subst c7
              have H1 : ((bytealg_IndexByteString.f x1_1 47).bind fun t169 => (some (decide (t169 < 0), none))) = some (r1, r2) := by rw [if_pos rfl] at H; exact H
              clear H
              have H := H1
              clear H1
              replace H := Option.bind_eq_some_iff.mp H
              obtain ⟨t169, A80, H⟩ := H
              replace H : (some (decide (t169 < 0), none)) = some (r1, r2) := H
              have A8 := Aside0.mk A80
              clear A80
              simp only [Option.some.injEq, Prod.mk.injEq] at H
              obtain ⟨rfl, rfl⟩ := H
              have hx18 := fun W => bytealg_IndexByteString.run x1_1 47 t169 W A8.out
              go_wp2
              (try simp only [Exit.noGoto_ret])
              go_ret2
              exact ⟨by first | rfl | (simp [nbn]; done) | (simp [errW_none, errW_some] <;> rfl) | (simp [*, errW_none, errW_some] <;> rfl), by repeat (first | (with_reducible first | exact HB.out | apply below_alloc | apply pw_below_drewN | apply below_drew1) | exact HB.out)⟩
            · replace c7 := Bool.eq_false_iff.mpr c7
              subst c7
              have H1 : ((path_matchChunk.f kj4 t167 x1_1).bind fun bt170 => (if bt170.2.1 = true then (if (bt170.1.size : Int) = 0 then (path_Match.j2 kj4 t168 x1_1 t166 t167 bt170.1 bt170.2.2 true) else (path_Match.j2 kj4 t168 x1_1 t166 t167 bt170.1 bt170.2.2 (decide ((t168.size : Int) > 0)))) else (path_Match.j2 kj4 t168 x1_1 t166 t167 bt170.1 bt170.2.2 false))) = some (r1, r2) := by rw [if_neg (show ¬ (false = true) by decide)] at H; exact H
              clear H
              have H := H1
              clear H1
              replace H := Option.bind_eq_some_iff.mp H
              obtain ⟨⟨t170, t171, t172⟩, A100, H⟩ := H
              replace H : (if t171 = true then (if (t170.size : Int) = 0 then (path_Match.j2 kj4 t168 x1_1 t166 t167 t170 t172 true) else (path_Match.j2 kj4 t168 x1_1 t166 t167 t170 t172 (decide ((t168.size : Int) > 0)))) else (path_Match.j2 kj4 t168 x1_1 t166 t167 t170 t172 false)) = some (r1, r2) := H
              have A10 := Aside0.mk A100
              clear A100
              have HC11 := Aside0.mk H
              clear H
              go_upto_region 8 with (first | ((with_reducible refine gate_callee (f := 19) rfl ?_); refine goesL_ (some 38) rfl rfl Tryd.func19 (by kernel_rfl) rfl #[.string t167, .string x1_1] rfl (by (try simp only [List.map_toArray, List.map_cons, List.map_nil]); first | done | rfl | (simp only [List.length_drop, List.length_take]; rfl)) ?_; (with_reducible refine (path_matchChunk.calls kj4 t167 x1_1 t170 t171 t172 _ A10.out).mono ?_); rintro e w12 ⟨rfl, hb⟩; refine ⟨_, rfl, ?_⟩; have n0_ := Aside0.mk (below_step (by repeat (first | (with_reducible first | exact HB.out | apply below_alloc | apply pw_below_drewN | apply below_drew1) | exact HB.out)) hb); clear HB; have HB := n0_; clear n0_; (try clear hb); (try clear hb2); (try clear hk); (try clear hi); (try simp only [errW_none, errW_some])))
              (try simp only [Act.put, List.setIfInBounds_toArray, List.set_cons_zero, List.set_cons_succ])
              go_cut [52] (fun v52 wc => ∃ (kq : Nat) (x52_10 : Bool), v52 = .bool x52_10 ∧ Aside0 (path_Match.j2 kq t168 x1_1 t166 t167 t170 t172 x52_10 = some (r1, r2)) ∧ Aside0 (kq ≤ kj4) ∧ Aside0 (Below w.heap.size w wc))
              case first =>
                have H := HC11.out
                clear HC11
                by_cases c13 : t171 = true
                · subst c13
                  have H1 : (if (t170.size : Int) = 0 then (path_Match.j2 kj4 t168 x1_1 t166 t167 t170 t172 true) else (path_Match.j2 kj4 t168 x1_1 t166 t167 t170 t172 (decide ((t168.size : Int) > 0)))) = some (r1, r2) := by rw [if_pos rfl] at H; exact H
                  clear H
                  have H := H1
                  clear H1
                  by_cases c14 : (t170.size : Int) = 0
                  · rw [if_pos c14] at H
                    have c14b0 : ((t170.size : Int) == 0) = true := beq_iff_eq.mpr c14
                    have c14b1 : ((t170.size : Int) != 0) = false := bne_eq_false_iff_eq.mpr c14
                    clear c14
                    (first | rw [c14b0] | (simp only [i64_w, i32_w]; rw [c14b0]) | skip)
                    have H' := Aside0.mk H
                    clear H
                    go_wp2
                    go_meet
                    case rel => exact ⟨_, (true), (by first | rfl | (simp; done) | (simp [*]; done)), H', ⟨by have := HK1.out; have := HJ4.out; first | omega | exact Nat.le_refl _⟩, ⟨by repeat (first | (with_reducible first | exact HB.out | apply below_alloc | apply pw_below_drewN | apply below_drew1) | exact HB.out)⟩⟩
                  · rw [if_neg c14] at H
                    have c14b0 : ((t170.size : Int) == 0) = false := beq_eq_false_iff_ne.mpr c14
                    have c14b1 : ((t170.size : Int) != 0) = true := bne_iff_ne.mpr c14
                    (first | rw [c14b0] | (simp only [i64_w, i32_w]; rw [c14b0]) | skip)
                    have H' := Aside0.mk H
                    clear H
                    go_wp2
                    go_meet
                    case rel => exact ⟨_, (decide ((t168.size : Int) > 0)), (by first | rfl | (simp; done) | (simp [*]; done)), H', ⟨by have := HK1.out; have := HJ4.out; first | omega | exact Nat.le_refl _⟩, ⟨by repeat (first | (with_reducible first | exact HB.out | apply below_alloc | apply pw_below_drewN | apply below_drew1) | exact HB.out)⟩⟩
                · replace c13 := Bool.eq_false_iff.mpr c13
                  subst c13
                  have H1 : (path_Match.j2 kj4 t168 x1_1 t166 t167 t170 t172 false) = some (r1, r2) := by rw [if_neg (show ¬ (false = true) by decide)] at H; exact H
                  clear H
                  have H := H1
                  clear H1
                  have H' := Aside0.mk H
                  clear H
                  go_wp2
                  go_meet
                  case rel => exact ⟨_, (false), (by first | rfl | (simp; done) | (simp [*]; done)), H', ⟨by have := HK1.out; have := HJ4.out; first | omega | exact Nat.le_refl _⟩, ⟨by repeat (first | (with_reducible first | exact HB.out | apply below_alloc | apply pw_below_drewN | apply below_drew1) | exact HB.out)⟩⟩
              case rest =>
                clear HC11
                try clear c1
                try clear p2
                try clear c3
                try clear c3b0
                try clear c3b1
                try clear c6
                try clear c7
                try clear c13
                try clear c14
                try clear c14b0
                try clear c14b1
                try clear p2
                obtain ⟨kq, x52_10, rfl, HA, HJ10, HB⟩ := hcut
                cases kq with
                | zero => exact absurd HA.out (by simp [path_Match.j2])
                | succ kj10 =>
                  have H := HA.out
                  clear HA
                  simp only [path_Match.j2] at H
                  by_cases c15 : x52_10 = true
                  · subst c15
                    have H1 : (path_Match.l0 kj10 t168 t170) = some (r1, r2) := by rw [if_pos rfl] at H; exact H
                    clear H
                    have H := H1
                    clear H1
                    have H' := Aside0.mk H
                    clear H
                    go_wp2
                    go_roundg kj10
                    case measure => have := HK1.out; have := HJ4.out; have := HJ10.out; omega
                    case rel => exact ⟨(t168), (t170), (by first | rfl | (simp; done) | (simp [*]; done)), (by first | rfl | (simp; done) | (simp [*]; done)), H', ⟨by have := HK1.out; have := HJ4.out; have := HJ10.out; omega⟩, ⟨by repeat (first | (with_reducible first | exact HB.out | apply below_alloc | apply pw_below_drewN | apply below_drew1) | exact HB.out)⟩⟩
                  · replace c15 := Bool.eq_false_iff.mpr c15
                    subst c15
                    have H1 : (if t172.isNone = true then (if t166 = true then (path_Match.l1 kj10 t168 x1_1 t167 0) else (path_Match.j6 kj10 t168)) else (some (false, some (t172.getD 0)))) = some (r1, r2) := by rw [if_neg (show ¬ (false = true) by decide)] at H; exact H
                    clear H
                    have H := H1
                    clear H1
                    rcases t172 with _ | q173
                    · have H1 : (if t166 = true then (path_Match.l1 kj10 t168 x1_1 t167 0) else (path_Match.j6 kj10 t168)) = some (r1, r2) := by rw [if_pos (show (none : Option Int).isNone = true by rfl)] at H; exact H
                      clear H
                      have H := H1
                      clear H1
                      try simp only [errW_none, errW_some]
                      have HC16 := Aside0.mk H
                      clear H
                      go_upto_if 57 with (fail)
                      go_cut [] (fun wc => ∃ (kq : Nat), Aside0 (path_Match.j6 kq t168 = some (r1, r2)) ∧ Aside0 (kq ≤ kj10) ∧ Aside0 (Below w.heap.size w wc))
                      case first =>
                        have H := HC16.out
                        clear HC16
                        by_cases c17 : t166 = true
                        · subst c17
                          have H1 : (path_Match.l1 kj10 t168 x1_1 t167 0) = some (r1, r2) := by rw [if_pos rfl] at H; exact H
                          clear H
                          have H := H1
                          clear H1
                          have H' := Aside0.mk H
                          clear H
                          go_wp2
                          go_loopg [1, 11] kj10 (fun kq v1 v11 w' => ∃ (x1_4 : ByteArray) (x11_4 : Int), v1 = .string x1_4 ∧ v11 = .int .i64 x11_4 ∧ Aside0 (path_Match.l1 kq t168 x1_4 t167 x11_4 = some (r1, r2)) ∧ Aside0 (kq ≤ kj10) ∧ Aside0 (Below w.heap.size w w'))
                          case atStart => exact ⟨(x1_1), (0), (by first | rfl | (simp; done) | (simp [*]; done)), (by first | rfl | (simp; done) | (simp [*]; done)), H', ⟨Nat.le_refl _⟩, ⟨by repeat (first | (with_reducible first | exact HB.out | apply below_alloc | apply pw_below_drewN | apply below_drew1) | exact HB.out)⟩⟩
                          case round =>
                            clear H'
                            try clear c1
                            try clear q1
                            try clear p2
                            try clear c3
                            try clear c3b0
                            try clear c3b1
                            try clear c6
                            try clear c7
                            try clear c13
                            try clear c14
                            try clear c14b0
                            try clear c14b1
                            try clear c15
                            try clear c17
                            try clear q17
                            try clear p2
                            try clear q173
                            obtain ⟨x1_4, x11_4, rfl, rfl, HA, HK4, HB⟩ := hrel
                            cases gk with
                            | zero => exact absurd HA.out (by simp [path_Match.l1])
                            | succ k4 =>
                              have H := HA.out
                              clear HA
                              simp only [path_Match.l1] at H
                              have HC18 := Aside0.mk H
                              clear H
                              go_upto_region 14 with (fail)
                              go_cut [67] (fun v67 wc => ∃ (kq : Nat) (x67_17 : Bool), v67 = .bool x67_17 ∧ Aside0 (path_Match.j4 kq t168 x1_4 t167 x11_4 x67_17 = some (r1, r2)) ∧ Aside0 (kq ≤ k4) ∧ Aside0 (Below w.heap.size w wc))
                              case first =>
                                have H := HC18.out
                                clear HC18
                                by_cases c19 : x11_4 < (x1_4.size : Int)
                                · rw [if_pos c19] at H
                                  have c19b0 : decide (x11_4 < (x1_4.size : Int)) = true := decide_eq_true c19
                                  clear c19
                                  (first | rw [c19b0] | (simp only [i64_w, i32_w]; rw [c19b0]) | skip)
                                  by_cases c20 : 0 ≤ x11_4
                                  · rw [if_pos c20] at H
                                    have c20b0 : decide (0 ≤ x11_4) = true := decide_eq_true c20
                                    clear c20
                                    have H' := Aside0.mk H
                                    clear H
                                    have p21 : 0 ≤ (x11_4 : Int) := of_decide_eq_true (by first | (with_reducible assumption) | assumption)
                                    have q21 : x11_4 < (x1_4.size : Int) := of_decide_eq_true (by first | (with_reducible assumption) | assumption)
                                    have hx21 := bt_at x1_4 x11_4
                                    replace p21 := eq_true p21
                                    replace q21 := eq_true q21
                                    go_wp2
                                    go_meet
                                    case rel => exact ⟨_, (((bt x1_4 x11_4) != 47)), (by first | rfl | (simp; done) | (simp [*]; done)), H', ⟨by have := HK1.out; have := HJ4.out; have := HJ10.out; have := HK4.out; first | omega | exact Nat.le_refl _⟩, ⟨by repeat (first | (with_reducible first | exact HB.out | apply below_alloc | apply pw_below_drewN | apply below_drew1) | exact HB.out)⟩⟩
                                  · rw [if_neg c20] at H
                                    exact absurd H (by simp)
                                · rw [if_neg c19] at H
                                  have c19b0 : decide (x11_4 < (x1_4.size : Int)) = false := decide_eq_false c19
                                  clear c19
                                  (first | rw [c19b0] | (simp only [i64_w, i32_w]; rw [c19b0]) | skip)
                                  have H' := Aside0.mk H
                                  clear H
                                  go_wp2
                                  go_meet
                                  case rel => exact ⟨_, (false), (by first | rfl | (simp; done) | (simp [*]; done)), H', ⟨by have := HK1.out; have := HJ4.out; have := HJ10.out; have := HK4.out; first | omega | exact Nat.le_refl _⟩, ⟨by repeat (first | (with_reducible first | exact HB.out | apply below_alloc | apply pw_below_drewN | apply below_drew1) | exact HB.out)⟩⟩
                              case rest =>
                                clear HC18
                                try clear c1
                                try clear q1
                                try clear c2
                                try clear p2
                                try clear q2
                                try clear hx2
                                try clear c3
                                try clear c3b0
                                try clear c3b1
                                try clear c6
                                try clear c7
                                try clear c13
                                try clear c14
                                try clear c14b0
                                try clear c14b1
                                try clear c15
                                try clear c17
                                try clear q17
                                try clear c18
                                try clear c19
                                try clear c19b0
                                try clear c20
                                try clear c20b0
                                try clear p21
                                try clear q21
                                try clear hx21
                                try clear p2
                                try clear p21
                                try clear q1
                                try clear q17
                                try clear q173
                                try clear q21
                                obtain ⟨kq, x67_17, rfl, HA, HJ17, HB⟩ := hcut
                                cases kq with
                                | zero => exact absurd HA.out (by simp [path_Match.j4])
                                | succ kj17 =>
                                  have H := HA.out
                                  clear HA
                                  simp only [path_Match.j4] at H
                                  by_cases c22 : x67_17 = true
                                  · subst c22
                                    have H1 : (if 0 ≤ (wrap64 (x11_4 + 1)) then (if (wrap64 (x11_4 + 1)) ≤ (x1_4.size : Int) then ((path_matchChunk.f kj17 t167 (x1_4.extract ((wrap64 (x11_4 + 1)) : Int).toNat x1_4.size)).bind fun bt174 => (if bt174.2.1 = true then (if (t168.size : Int) = 0 then (path_Match.j5 kj17 t168 x1_4 t167 x11_4 bt174.1 (decide ((bt174.1.size : Int) > 0))) else (path_Match.j5 kj17 t168 x1_4 t167 x11_4 bt174.1 false)) else (if bt174.2.2.isNone = true then (path_Match.l1 kj17 t168 x1_4 t167 (wrap64 (x11_4 + 1))) else (some (false, some (bt174.2.2.getD 0)))))) else (none)) else (none)) = some (r1, r2) := by rw [if_pos rfl] at H; exact H
                                    clear H
                                    have H := H1
                                    clear H1
                                    obtain ⟨ji23, hji23⟩ : ∃ j_ : Int, (wrap64 (x11_4 + 1)) = j_ := ⟨_, rfl⟩
                                    replace H : (if 0 ≤ (ji23) then (if (ji23) ≤ (x1_4.size : Int) then ((path_matchChunk.f kj17 t167 (x1_4.extract ((ji23) : Int).toNat x1_4.size)).bind fun bt174 => (if bt174.2.1 = true then (if (t168.size : Int) = 0 then (path_Match.j5 kj17 t168 x1_4 t167 x11_4 bt174.1 (decide ((bt174.1.size : Int) > 0))) else (path_Match.j5 kj17 t168 x1_4 t167 x11_4 bt174.1 false)) else (if bt174.2.2.isNone = true then (path_Match.l1 kj17 t168 x1_4 t167 ji23) else (some (false, some (bt174.2.2.getD 0)))))) else (none)) else (none)) = some (r1, r2) := by first | (rw [hji23] at H; exact H) | (simp only [hji23] at H ⊢; exact H)
                                    have hji23w : (IntKind.i64.wrap (x11_4 + 1)) = ji23 := (i64_w _).trans hji23
                                    by_cases c24 : 0 ≤ (ji23)
                                    · rw [if_pos c24] at H
                                      have c24b0 := eq_true c24
                                      have c24b1 : decide (0 ≤ (ji23)) = true := decide_eq_true c24
                                      clear c24
                                      by_cases c25 : (ji23) ≤ (x1_4.size : Int)
                                      · rw [if_pos c25] at H
                                        have c25b0 := eq_true c25
                                        have c25b1 : decide ((ji23) ≤ (x1_4.size : Int)) = true := decide_eq_true c25
                                        clear c25
                                        replace H := Option.bind_eq_some_iff.mp H
                                        obtain ⟨⟨t174, t175, t176⟩, A260, H⟩ := H
                                        replace H : (if t175 = true then (if (t168.size : Int) = 0 then (path_Match.j5 kj17 t168 x1_4 t167 x11_4 t174 (decide ((t174.size : Int) > 0))) else (path_Match.j5 kj17 t168 x1_4 t167 x11_4 t174 false)) else (if t176.isNone = true then (path_Match.l1 kj17 t168 x1_4 t167 ji23) else (some (false, some (t176.getD 0))))) = some (r1, r2) := H
                                        have A26 := Aside0.mk A260
                                        clear A260
                                        by_cases c27 : t175 = true
                                        · subst c27
                                          have H1 : (if (t168.size : Int) = 0 then (path_Match.j5 kj17 t168 x1_4 t167 x11_4 t174 (decide ((t174.size : Int) > 0))) else (path_Match.j5 kj17 t168 x1_4 t167 x11_4 t174 false)) = some (r1, r2) := by rw [if_pos rfl] at H; exact H
                                          clear H
                                          have H := H1
                                          clear H1
                                          have HC28 := Aside0.mk H
                                          clear H
                                          go_upto_region 18 with (first | ((with_reducible refine gate_callee (f := 19) rfl ?_); refine goesL_ (some 76) rfl rfl Tryd.func19 (by kernel_rfl) rfl #[.string t167, .string (x1_4.extract ((ji23) : Int).toNat x1_4.size)] rfl (by (try simp only [List.map_toArray, List.map_cons, List.map_nil]); first | done | (simp only [hji23]; rfl) | rfl | (simp only [List.length_drop, List.length_take]; rfl)) ?_; (with_reducible refine (path_matchChunk.calls kj17 t167 (x1_4.extract ((ji23) : Int).toNat x1_4.size) t174 true t176 _ A26.out).mono ?_); rintro e w29 ⟨rfl, hb⟩; refine ⟨_, rfl, ?_⟩; have n0_ := Aside0.mk (below_step (by repeat (first | (with_reducible first | exact HB.out | apply below_alloc | apply pw_below_drewN | apply below_drew1) | exact HB.out)) hb); clear HB; have HB := n0_; clear n0_; (try clear hb); (try clear hb2); (try clear hk); (try clear hi); (try simp only [errW_none, errW_some])))
                                          (try simp only [Act.put, List.setIfInBounds_toArray, List.set_cons_zero, List.set_cons_succ])
                                          go_cut [88] (fun v88 wc => ∃ (kq : Nat) (x88_27 : Bool), v88 = .bool x88_27 ∧ Aside0 (path_Match.j5 kq t168 x1_4 t167 x11_4 t174 x88_27 = some (r1, r2)) ∧ Aside0 (kq ≤ kj17) ∧ Aside0 (Below w.heap.size w wc))
                                          case first =>
                                            have H := HC28.out
                                            clear HC28
                                            by_cases c30 : (t168.size : Int) = 0
                                            · rw [if_pos c30] at H
                                              have c30b0 : ((t168.size : Int) == 0) = true := beq_iff_eq.mpr c30
                                              have c30b1 : ((t168.size : Int) != 0) = false := bne_eq_false_iff_eq.mpr c30
                                              clear c30
                                              (first | rw [c30b0] | (simp only [i64_w, i32_w]; rw [c30b0]) | skip)
                                              have H' := Aside0.mk H
                                              clear H
                                              go_wp2
                                              go_meet
                                              case rel => exact ⟨_, (decide ((t174.size : Int) > 0)), (by first | rfl | (simp; done) | (simp [*]; done)), H', ⟨by have := HK1.out; have := HJ4.out; have := HJ10.out; have := HK4.out; have := HJ17.out; first | omega | exact Nat.le_refl _⟩, ⟨by repeat (first | (with_reducible first | exact HB.out | apply below_alloc | apply pw_below_drewN | apply below_drew1) | exact HB.out)⟩⟩
                                            · rw [if_neg c30] at H
                                              have c30b0 : ((t168.size : Int) == 0) = false := beq_eq_false_iff_ne.mpr c30
                                              have c30b1 : ((t168.size : Int) != 0) = true := bne_iff_ne.mpr c30
                                              (first | rw [c30b0] | (simp only [i64_w, i32_w]; rw [c30b0]) | skip)
                                              have H' := Aside0.mk H
                                              clear H
                                              go_wp2
                                              go_meet
                                              case rel => exact ⟨_, (false), (by first | rfl | (simp; done) | (simp [*]; done)), H', ⟨by have := HK1.out; have := HJ4.out; have := HJ10.out; have := HK4.out; have := HJ17.out; first | omega | exact Nat.le_refl _⟩, ⟨by repeat (first | (with_reducible first | exact HB.out | apply below_alloc | apply pw_below_drewN | apply below_drew1) | exact HB.out)⟩⟩
                                          case rest =>
                                            clear HC28
                                            try clear c1
                                            try clear q1
                                            try clear c2
                                            try clear p2
                                            try clear q2
                                            try clear hx2
                                            try clear c3
                                            try clear c3b0
                                            try clear c3b1
                                            try clear c6
                                            try clear p6
                                            try clear c7
                                            try clear c13
                                            try clear c14
                                            try clear c14b0
                                            try clear c14b1
                                            try clear c15
                                            try clear c17
                                            try clear q17
                                            try clear c18
                                            try clear c19
                                            try clear c19b0
                                            try clear c20
                                            try clear c20b0
                                            try clear p21
                                            try clear q21
                                            try clear hx21
                                            try clear c22
                                            try clear c24
                                            try clear c24b0
                                            try clear c24b1
                                            try clear c25
                                            try clear c25b0
                                            try clear c25b1
                                            try clear c27
                                            try clear c30
                                            try clear c30b0
                                            try clear c30b1
                                            try clear p2
                                            try clear p21
                                            try clear q1
                                            try clear q17
                                            try clear q173
                                            try clear q2
                                            try clear q21
                                            obtain ⟨kq, x88_27, rfl, HA, HJ27, HB⟩ := hcut
                                            cases kq with
                                            | zero => exact absurd HA.out (by simp [path_Match.j5])
                                            | succ kj27 =>
                                              have H := HA.out
                                              clear HA
                                              simp only [path_Match.j5] at H
                                              by_cases c31 : x88_27 = true
                                              · subst c31
                                                have H1 : (path_Match.l1 kj27 t168 x1_4 t167 (wrap64 (x11_4 + 1))) = some (r1, r2) := by rw [if_pos rfl] at H; exact H
                                                clear H
                                                have H := H1
                                                clear H1
                                                have H' := Aside0.mk H
                                                clear H
                                                go_wp2
                                                go_roundg kj27
                                                case measure => have := HK1.out; have := HJ4.out; have := HJ10.out; have := HK4.out; have := HJ17.out; have := HJ27.out; omega
                                                case rel => exact ⟨(x1_4), (wrap64 (x11_4 + 1)), (by first | rfl | (simp; done) | (simp [*]; done)), (by first | rfl | (simp; done) | (simp [*]; done)), H', ⟨by have := HK1.out; have := HJ4.out; have := HJ10.out; have := HK4.out; have := HJ17.out; have := HJ27.out; omega⟩, ⟨by repeat (first | (with_reducible first | exact HB.out | apply below_alloc | apply pw_below_drewN | apply below_drew1) | exact HB.out)⟩⟩
                                              · replace c31 := Bool.eq_false_iff.mpr c31
                                                subst c31
                                                have H1 : (path_Match.l0 kj27 t168 t174) = some (r1, r2) := by rw [if_neg (show ¬ (false = true) by decide)] at H; exact H
                                                clear H
                                                have H := H1
                                                clear H1
                                                have H' := Aside0.mk H
                                                clear H
                                                go_wp2
                                                go_roundg kj27
                                                case measure => have := HK1.out; have := HJ4.out; have := HJ10.out; have := HK4.out; have := HJ17.out; have := HJ27.out; omega
                                                case rel => exact ⟨(t168), (t174), (by first | rfl | (simp; done) | (simp [*]; done)), (by first | rfl | (simp; done) | (simp [*]; done)), H', ⟨by have := HK1.out; have := HJ4.out; have := HJ10.out; have := HK4.out; have := HJ17.out; have := HJ27.out; omega⟩, ⟨by repeat (first | (with_reducible first | exact HB.out | apply below_alloc | apply pw_below_drewN | apply below_drew1) | exact HB.out)⟩⟩
                                        · replace c27 := Bool.eq_false_iff.mpr c27
                                          subst c27
                                          have H1 : (if t176.isNone = true then (path_Match.l1 kj17 t168 x1_4 t167 ji23) else (some (false, some (t176.getD 0)))) = some (r1, r2) := by rw [if_neg (show ¬ (false = true) by decide)] at H; exact H
                                          clear H
                                          have H := H1
                                          clear H1
                                          rcases t176 with _ | q177
                                          · have H1 : (path_Match.l1 kj17 t168 x1_4 t167 ji23) = some (r1, r2) := by rw [if_pos (show (none : Option Int).isNone = true by rfl)] at H; exact H
                                            clear H
                                            have H := H1
                                            clear H1
                                            try simp only [errW_none, errW_some]
                                            have H' := Aside0.mk H
                                            clear H
                                            go_wp2_with (first | ((with_reducible refine gate_callee (f := 19) rfl ?_); refine goesL_ (some 76) rfl rfl Tryd.func19 (by kernel_rfl) rfl #[.string t167, .string (x1_4.extract ((ji23) : Int).toNat x1_4.size)] rfl (by (try simp only [List.map_toArray, List.map_cons, List.map_nil]); first | done | (simp only [hji23]; rfl) | rfl | (simp only [List.length_drop, List.length_take]; rfl)) ?_; (with_reducible refine (path_matchChunk.calls kj17 t167 (x1_4.extract ((ji23) : Int).toNat x1_4.size) t174 false none _ A26.out).mono ?_); rintro e w32 ⟨rfl, hb⟩; refine ⟨_, rfl, ?_⟩; have n0_ := Aside0.mk (below_step (by repeat (first | (with_reducible first | exact HB.out | apply below_alloc | apply pw_below_drewN | apply below_drew1) | exact HB.out)) hb); clear HB; have HB := n0_; clear n0_; (try clear hb); (try clear hb2); (try clear hk); (try clear hi); (try simp only [errW_none, errW_some])))
                                            go_roundg kj17
                                            case measure => have := HK1.out; have := HJ4.out; have := HJ10.out; have := HK4.out; have := HJ17.out; omega
                                            case rel => exact ⟨(x1_4), (ji23), (by first | rfl | (simp; done) | (simp [*]; done)), (by first | rfl | (simp; done) | (simp only [← hji23] <;> (first | rfl | simp)) | (simp [*]; done)), H', ⟨by have := HK1.out; have := HJ4.out; have := HJ10.out; have := HK4.out; have := HJ17.out; omega⟩, ⟨by repeat (first | (with_reducible first | exact HB.out | apply below_alloc | apply pw_below_drewN | apply below_drew1) | exact HB.out)⟩⟩
                                          · have H1 : (some (false, some q177)) = some (r1, r2) := by rw [if_neg (show ¬ (some q177).isNone = true by simp)] at H; exact H
                                            clear H
                                            have H := H1
                                            clear H1
                                            try simp only [errW_none, errW_some]
                                            simp only [Option.some.injEq, Prod.mk.injEq] at H
                                            obtain ⟨rfl, rfl⟩ := H
                                            go_wp2_with (first | ((with_reducible refine gate_callee (f := 19) rfl ?_); refine goesL_ (some 76) rfl rfl Tryd.func19 (by kernel_rfl) rfl #[.string t167, .string (x1_4.extract ((ji23) : Int).toNat x1_4.size)] rfl (by (try simp only [List.map_toArray, List.map_cons, List.map_nil]); first | done | (simp only [hji23]; rfl) | rfl | (simp only [List.length_drop, List.length_take]; rfl)) ?_; (with_reducible refine (path_matchChunk.calls kj17 t167 (x1_4.extract ((ji23) : Int).toNat x1_4.size) t174 false (some q177) _ A26.out).mono ?_); rintro e w33 ⟨rfl, hb⟩; refine ⟨_, rfl, ?_⟩; have n0_ := Aside0.mk (below_step (by repeat (first | (with_reducible first | exact HB.out | apply below_alloc | apply pw_below_drewN | apply below_drew1) | exact HB.out)) hb); clear HB; have HB := n0_; clear n0_; (try clear hb); (try clear hb2); (try clear hk); (try clear hi); (try simp only [errW_none, errW_some])))
                                            (try simp only [Exit.noGoto_ret])
                                            go_ret2
                                            exact ⟨by first | rfl | (simp [errW_none, errW_some] <;> rfl) | (simp only [← hji23]; first | rfl | (simp [errW_none, errW_some] <;> rfl)) | (simp [*, errW_none, errW_some] <;> rfl), by repeat (first | (with_reducible first | exact HB.out | apply below_alloc | apply pw_below_drewN | apply below_drew1) | exact HB.out)⟩
                                      · rw [if_neg c25] at H
                                        exact absurd H (by simp)
                                    · rw [if_neg c24] at H
                                      exact absurd H (by simp)
                                  · replace c22 := Bool.eq_false_iff.mpr c22
                                    subst c22
                                    have H1 : (path_Match.j6 kj17 t168) = some (r1, r2) := by rw [if_neg (show ¬ (false = true) by decide)] at H; exact H
                                    clear H
                                    have H := H1
                                    clear H1
                                    have H' := Aside0.mk H
                                    clear H
                                    go_wp2
                                    go_meet
                                    case rel => exact ⟨_, H', ⟨by have := HK1.out; have := HJ4.out; have := HJ10.out; have := HK4.out; have := HJ17.out; first | omega | exact Nat.le_refl _⟩, ⟨by repeat (first | (with_reducible first | exact HB.out | apply below_alloc | apply pw_below_drewN | apply below_drew1) | exact HB.out)⟩⟩
                        · replace c17 := Bool.eq_false_iff.mpr c17
                          subst c17
                          have H1 : (path_Match.j6 kj10 t168) = some (r1, r2) := by rw [if_neg (show ¬ (false = true) by decide)] at H; exact H
                          clear H
                          have H := H1
                          clear H1
                          have H' := Aside0.mk H
                          clear H
                          go_wp2
                          go_meet
                          case rel => exact ⟨_, H', ⟨by have := HK1.out; have := HJ4.out; have := HJ10.out; first | omega | exact Nat.le_refl _⟩, ⟨by repeat (first | (with_reducible first | exact HB.out | apply below_alloc | apply pw_below_drewN | apply below_drew1) | exact HB.out)⟩⟩
                      case rest =>
                        clear HC16
                        try clear c1
                        try clear q1
                        try clear c2
                        try clear p2
                        try clear q2
                        try clear hx2
                        try clear c3
                        try clear c3b0
                        try clear c3b1
                        try clear c6
                        try clear p6
                        try clear c7
                        try clear c13
                        try clear c14
                        try clear c14b0
                        try clear c14b1
                        try clear c15
                        try clear c17
                        try clear q17
                        try clear c18
                        try clear c19
                        try clear c19b0
                        try clear c20
                        try clear c20b0
                        try clear p21
                        try clear q21
                        try clear hx21
                        try clear c22
                        try clear c24
                        try clear c24b0
                        try clear c24b1
                        try clear c25
                        try clear c25b0
                        try clear c25b1
                        try clear c27
                        try clear c30
                        try clear c30b0
                        try clear c30b1
                        try clear c31
                        try clear p2
                        try clear p21
                        try clear p6
                        try clear q1
                        try clear q17
                        try clear q173
                        try clear q177
                        try clear q2
                        try clear q21
                        obtain ⟨kq, HA, HJ15, HB⟩ := hcut
                        cases kq with
                        | zero => exact absurd HA.out (by simp [path_Match.j6])
                        | succ kj15 =>
                          have H := HA.out
                          clear HA
                          simp only [path_Match.j6] at H
                          have H' := Aside0.mk H
                          clear H
                          go_wp2
                          go_loopg [0] kj15 (fun kq v0 w' => ∃ (x0_5 : ByteArray), v0 = .string x0_5 ∧ Aside0 (path_Match.l2 kq x0_5 = some (r1, r2)) ∧ Aside0 (kq ≤ kj15) ∧ Aside0 (Below w.heap.size w w'))
                          case atStart => exact ⟨(t168), (by first | rfl | (simp; done) | (simp [*]; done)), H', ⟨Nat.le_refl _⟩, ⟨by repeat (first | (with_reducible first | exact HB.out | apply below_alloc | apply pw_below_drewN | apply below_drew1) | exact HB.out)⟩⟩
                          case round =>
                            clear H'
                            try clear c1
                            try clear q1
                            try clear c2
                            try clear p2
                            try clear q2
                            try clear hx2
                            try clear c3
                            try clear c3b0
                            try clear c3b1
                            try clear c6
                            try clear p6
                            try clear c7
                            try clear c13
                            try clear c14
                            try clear c14b0
                            try clear c14b1
                            try clear c15
                            try clear c17
                            try clear q17
                            try clear c18
                            try clear c19
                            try clear c19b0
                            try clear c20
                            try clear c20b0
                            try clear p21
                            try clear q21
                            try clear hx21
                            try clear c22
                            try clear c24
                            try clear c24b0
                            try clear c24b1
                            try clear c25
                            try clear c25b0
                            try clear c25b1
                            try clear c27
                            try clear c30
                            try clear c30b0
                            try clear c30b1
                            try clear c31
                            try clear p2
                            try clear p21
                            try clear p6
                            try clear q1
                            try clear q17
                            try clear q173
                            try clear q177
                            try clear q2
                            try clear q21
                            obtain ⟨x0_5, rfl, HA, HK5, HB⟩ := hrel
                            cases gk with
                            | zero => exact absurd HA.out (by simp [path_Match.l2])
                            | succ k5 =>
                              have H := HA.out
                              clear HA
                              simp only [path_Match.l2] at H
                              by_cases c34 : (x0_5.size : Int) > 0
                              · rw [if_pos c34] at H
                                have c34b0 : decide (0 < (x0_5.size : Int)) = true := decide_eq_true c34
                                have c34b1 : decide (0 < x0_5.size) = true := decide_eq_true (by omega)
                                clear c34
                                replace H := Option.bind_eq_some_iff.mp H
                                obtain ⟨⟨t178, t179, t180⟩, A350, H⟩ := H
                                replace H : ((path_matchChunk.f k5 t179 (⟨#[]⟩ : ByteArray)).bind fun bt181 => (if bt181.2.2.isNone = true then (path_Match.l2 k5 t180) else (some (false, some (bt181.2.2.getD 0))))) = some (r1, r2) := H
                                have A35 := Aside0.mk A350
                                clear A350
                                replace H := Option.bind_eq_some_iff.mp H
                                obtain ⟨⟨t181, t182, t183⟩, A360, H⟩ := H
                                replace H : (if t183.isNone = true then (path_Match.l2 k5 t180) else (some (false, some (t183.getD 0)))) = some (r1, r2) := H
                                have A36 := Aside0.mk A360
                                clear A360
                                rcases t183 with _ | q184
                                · have H1 : (path_Match.l2 k5 t180) = some (r1, r2) := by rw [if_pos (show (none : Option Int).isNone = true by rfl)] at H; exact H
                                  clear H
                                  have H := H1
                                  clear H1
                                  try simp only [errW_none, errW_some]
                                  have H' := Aside0.mk H
                                  clear H
                                  go_wp2_with (first | ((with_reducible refine gate_callee (f := 17) rfl ?_); refine goesL_ (some 98) rfl rfl Tryd.func17 (by kernel_rfl) rfl #[.string x0_5] rfl (by (try simp only [List.map_toArray, List.map_cons, List.map_nil]); first | done | rfl | (simp only [List.length_drop, List.length_take]; rfl)) ?_; (with_reducible refine (path_scanChunk.calls k5 x0_5 t178 t179 t180 _ A35.out).mono ?_); rintro e w' ⟨rfl, ⟨nd, rfl⟩⟩; refine ⟨_, rfl, ?_⟩) | ((with_reducible refine gate_callee (f := 19) rfl ?_); refine goesL_ (some 104) rfl rfl Tryd.func19 (by kernel_rfl) rfl #[.string t179, .string (⟨#[]⟩ : ByteArray)] rfl (by (try simp only [List.map_toArray, List.map_cons, List.map_nil]); first | done | rfl | (simp only [List.length_drop, List.length_take]; rfl)) ?_; (with_reducible refine (path_matchChunk.calls k5 t179 (⟨#[]⟩ : ByteArray) t181 t182 none _ A36.out).mono ?_); rintro e w37 ⟨rfl, hb⟩; refine ⟨_, rfl, ?_⟩; have n0_ := Aside0.mk (below_step (by repeat (first | (with_reducible first | exact HB.out | apply below_alloc | apply pw_below_drewN | apply below_drew1) | exact HB.out)) hb); clear HB; have HB := n0_; clear n0_; (try clear hb); (try clear hb2); (try clear hk); (try clear hi); (try simp only [errW_none, errW_some])))
                                  go_roundg k5
                                  case measure => have := HK1.out; have := HJ4.out; have := HJ10.out; have := HJ15.out; have := HK5.out; omega
                                  case rel => exact ⟨(t180), (by first | rfl | (simp; done) | (simp [*]; done)), H', ⟨by have := HK1.out; have := HJ4.out; have := HJ10.out; have := HJ15.out; have := HK5.out; omega⟩, ⟨by repeat (first | (with_reducible first | exact HB.out | apply below_alloc | apply pw_below_drewN | apply below_drew1) | exact HB.out)⟩⟩
                                · have H1 : (some (false, some q184)) = some (r1, r2) := by rw [if_neg (show ¬ (some q184).isNone = true by simp)] at H; exact H
                                  clear H
                                  have H := H1
                                  clear H1
                                  try simp only [errW_none, errW_some]
                                  simp only [Option.some.injEq, Prod.mk.injEq] at H
                                  obtain ⟨rfl, rfl⟩ := H
                                  go_wp2_with (first | ((with_reducible refine gate_callee (f := 17) rfl ?_); refine goesL_ (some 98) rfl rfl Tryd.func17 (by kernel_rfl) rfl #[.string x0_5] rfl (by (try simp only [List.map_toArray, List.map_cons, List.map_nil]); first | done | rfl | (simp only [List.length_drop, List.length_take]; rfl)) ?_; (with_reducible refine (path_scanChunk.calls k5 x0_5 t178 t179 t180 _ A35.out).mono ?_); rintro e w' ⟨rfl, ⟨nd, rfl⟩⟩; refine ⟨_, rfl, ?_⟩) | ((with_reducible refine gate_callee (f := 19) rfl ?_); refine goesL_ (some 104) rfl rfl Tryd.func19 (by kernel_rfl) rfl #[.string t179, .string (⟨#[]⟩ : ByteArray)] rfl (by (try simp only [List.map_toArray, List.map_cons, List.map_nil]); first | done | rfl | (simp only [List.length_drop, List.length_take]; rfl)) ?_; (with_reducible refine (path_matchChunk.calls k5 t179 (⟨#[]⟩ : ByteArray) t181 t182 (some q184) _ A36.out).mono ?_); rintro e w38 ⟨rfl, hb⟩; refine ⟨_, rfl, ?_⟩; have n0_ := Aside0.mk (below_step (by repeat (first | (with_reducible first | exact HB.out | apply below_alloc | apply pw_below_drewN | apply below_drew1) | exact HB.out)) hb); clear HB; have HB := n0_; clear n0_; (try clear hb); (try clear hb2); (try clear hk); (try clear hi); (try simp only [errW_none, errW_some])))
                                  (try simp only [Exit.noGoto_ret])
                                  go_ret2
                                  exact ⟨by first | rfl | (simp [nbn]; done) | (simp [errW_none, errW_some] <;> rfl) | (simp [*, errW_none, errW_some] <;> rfl), by repeat (first | (with_reducible first | exact HB.out | apply below_alloc | apply pw_below_drewN | apply below_drew1) | exact HB.out)⟩
                              · rw [if_neg c34] at H
                                have c34b0 : decide (0 < (x0_5.size : Int)) = false := decide_eq_false c34
                                have c34b1 : decide (0 < x0_5.size) = false := decide_eq_false (by omega)
                                clear c34
                                simp only [Option.some.injEq, Prod.mk.injEq] at H
                                obtain ⟨rfl, rfl⟩ := H
                                go_wp2
                                (try simp only [Exit.noGoto_ret])
                                go_ret2
                                exact ⟨by first | rfl | (simp [nbn]; done) | (simp [errW_none, errW_some] <;> rfl) | (simp [*, errW_none, errW_some] <;> rfl), by repeat (first | (with_reducible first | exact HB.out | apply below_alloc | apply pw_below_drewN | apply below_drew1) | exact HB.out)⟩
                    · have H1 : (some (false, some q173)) = some (r1, r2) := by rw [if_neg (show ¬ (some q173).isNone = true by simp)] at H; exact H
                      clear H
                      have H := H1
                      clear H1
                      try simp only [errW_none, errW_some]
                      simp only [Option.some.injEq, Prod.mk.injEq] at H
                      obtain ⟨rfl, rfl⟩ := H
                      go_wp2
                      (try simp only [Exit.noGoto_ret])
                      go_ret2
                      exact ⟨by first | rfl | (simp [nbn]; done) | (simp [errW_none, errW_some] <;> rfl) | (simp [*, errW_none, errW_some] <;> rfl), by repeat (first | (with_reducible first | exact HB.out | apply below_alloc | apply pw_below_drewN | apply below_drew1) | exact HB.out)⟩
      · rw [if_neg c3] at H
        have c3b0 : decide (0 < (x0_1.size : Int)) = false := decide_eq_false c3
        have c3b1 : decide (0 < x0_1.size) = false := decide_eq_false (by omega)
        clear c3
        simp only [Option.some.injEq, Prod.mk.injEq] at H
        obtain ⟨rfl, rfl⟩ := H
        go_wp2
        (try simp only [Exit.noGoto_ret])
        go_ret2
        exact ⟨by first | rfl | (simp [nbn]; done) | (simp [errW_none, errW_some] <;> rfl) | (simp [*, errW_none, errW_some] <;> rfl), by repeat (first | (with_reducible first | exact HB.out | apply below_alloc | apply pw_below_drewN | apply below_drew1) | exact HB.out)⟩

end Go.Proofs.YtbdlcbllcjpaaaaDoor.PG
