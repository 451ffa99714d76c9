/- zzIndexRune and containsOnly. -/
import Derived.Test.YtgenbmhmcnaiiaaDoorHaBaseKS
import Derived.Test.YtgenbmhmcnaiiaaDoorBasicKS
import Derived.Lib.OthersKept
namespace Go.Proofs.YtgenbmhmcnaiiaaDoor.H
open Go.RowKit Go.Proofs.YtgenbmhmcnaiiaaDoorW.PrintWords
set_option linter.unusedVariables false
set_option linter.unusedSimpArgs false

/-- The first place of a rune in a text, -1 if there is none (or the rune is no rune). -/
def zr (s : ByteArray) (x : Nat) : Int := if 55296 ≤ x ∧ x ≤ 57343 then -1 else Lib.idxFunc (fun c => c == x) true s

set_option maxHeartbeats 4000000 in
set_option maxRecDepth 1000000 in
theorem indexrune_calls (s : ByteArray) (x : Nat) (hx : x ≤ 1114111) (w : World) :
    Calls Tryd.prog 168 #[.string s, .int .i32 (x : Int)] w fun e w' => e = .returned (.int .i64 (zr s x)) ∧ Below w.heap.size w w' := by
  have t0 := Tryd.underlying0
  have t3 := Tryd.underlying3
  have t4 := Tryd.underlying4
  have t9 := Tryd.underlying9
  have t21 := Tryd.underlying21
  have n0 : ¬ ((x : Int) < 0) := by omega
  have n1 : ¬ ((1114111 : Int) < (x : Int)) := by omega
  unfold zr
  by_cases hsur : 55296 ≤ x ∧ x ≤ 57343
  · rw [if_pos hsur]
    have n2 : ¬ ((x : Int) = 65533) := by omega
    have n3 : (55296 : Int) ≤ (x : Int) := by omega
    have n4 : (x : Int) ≤ 57343 := by omega
    go_enter Tryd.func168, Tryd.ntmps168
    go_wp2
    all_goals first
      | (exfalso; omega)
      | (go_ret; exact ⟨rfl, Below.refl _ _⟩)
  · rw [if_neg hsur]
    go_enter Tryd.func168, Tryd.ntmps168
    go_wp2
    all_goals first
      | (exfalso; omega)
      | skip
    all_goals
      go_loopg [] s.size (fun gf wx => ∃ pos : Nat, wx.heap[w.heap.size]? = some (.stringIter s pos) ∧ Below w.heap.size w wx ∧ Lib.idxFuncFrom (fun c => c == x) true s gf pos = Lib.idxFunc (fun c => c == x) true s ∧ s.size ≤ pos + gf)
      case atStart => exact ⟨0, World.iter_heap w s 0, (Below.refl _ w).alloc (Nat.le_refl _) _, rfl, by omega⟩
      case round =>
        obtain ⟨pos, hit, hbw, hleft, hfu⟩ := hrel
        by_cases hps : pos < s.size
        · obtain ⟨g', rfl⟩ : ∃ g', gk = g' + 1 := ⟨gk - 1, by omega⟩
          have hnx : ∀ ty, (Instr.next (.pointer (some ⟨w.heap.size, 0, none⟩)) true ty).run Tryd.prog wr = _ := fun ty => Lib.run_next_any_at wr w.heap.size s pos ty hit hps
          have hwd := Lib.width_pos s pos
          obtain ⟨R, hR⟩ : ∃ R, (Utf8.decode s pos).1 = R := ⟨_, rfl⟩
          obtain ⟨K, hK⟩ : ∃ K, (Utf8.decode s pos).2 = K := ⟨_, rfl⟩
          simp only [Lib.idxFuncFrom, hps, if_true, hR, hK] at hleft
          rw [hR, hK] at hnx
          rw [hK] at hwd
          have hit2 := Lib.iterAt_heap wr w.heap.size s pos (pos + K) hit
          have hbw2 := Lib.below_iterAt hbw (k := w.heap.size) (Nat.le_refl _) s (pos + K)
          obtain ⟨W, hWd⟩ : ∃ W, wr.iterAt w.heap.size s (pos + K) = W := ⟨_, rfl⟩
          rw [hWd] at hnx hit2 hbw2
          by_cases hRx : R = x
          · have hRi : ((R : Int) = (x : Int)) := by omega
            rw [if_pos (by simp [hRx])] at hleft
            subst hRx
            go_wp2
            go_ret
            exact ⟨by rw [← hleft] <;> rfl, hbw2⟩
          · have hRi : ¬ ((R : Int) = (x : Int)) := by omega
            rw [if_neg (by simp [hRx])] at hleft
            go_wp2
            go_roundg g'
            case measure => omega
            case rel => exact ⟨pos + K, hit2, hbw2, hleft, by omega⟩
        · have hnx : ∀ ty, (Instr.next (.pointer (some ⟨w.heap.size, 0, none⟩)) true ty).run Tryd.prog wr = _ := fun ty => Lib.run_next_end_at wr w.heap.size s pos ty hit hps
          rw [Lib.idxFuncFrom_end _ true s gk pos hps] at hleft
          go_wp2
          go_ret
          exact ⟨by rw [← hleft] <;> rfl, hbw⟩
end Go.Proofs.YtgenbmhmcnaiiaaDoor.H
