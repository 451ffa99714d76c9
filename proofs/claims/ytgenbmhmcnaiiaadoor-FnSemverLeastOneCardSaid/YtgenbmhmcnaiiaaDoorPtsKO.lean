/- Texts of this claim, joined. -/
import Derived.Test.YtgenbmhmcnaiiaaDoorTStKO
import Derived.Test.YtgenbmhmcnaiiaaDoorPGx0KO
import Derived.Test.YtgenbmhmcnaiiaaDoorBasicKO
import Derived.Test.YtgenbmhmcnaiiaaDoorListsKO
import Derived.Test.YtgenbmhmcnaiiaaDoorPGx1KO
import Derived.Test.YtgenbmhmcnaiiaaDoorHaNumKO
import Derived.Test.YtgenbmhmcnaiiaaDoorPGx23KO
import Derived.Test.YtgenbmhmcnaiiaaDoorPGx18KO
/- spec.Block: the least release above all that begin with a version's first numbers. -/
namespace Go.Proofs.YtgenbmhmcnaiiaaDoor.H
open Go.RowKit Go.Proofs.YtgenbmhmcnaiiaaDoorW.PrintWords Go.Proofs.YtgenbmhmcnaiiaaDoorW.PrintLast Go.Proofs.YtgenbmhmcnaiiaaDoorW.PrintMore
set_option linter.unusedVariables false
set_option linter.unusedSimpArgs false

def up (x : Int) : Int := IntKind.u64.wrap (x + 1)
def blk0 (a : Int) : Option (Int × Int × Int) := if up a = 0 then none else some (up a, 0, 0)
def blk1 (a b : Int) : Option (Int × Int × Int) := if up b = 0 then blk0 a else some (a, up b, 0)
def blk2 (a b c : Int) : Option (Int × Int × Int) := if up c = 0 then blk1 a b else some (a, b, up c)
def blkI (i a b c : Int) : Option (Int × Int × Int) := if i = 0 then blk0 a else if i = 1 then blk1 a b else if i = 2 then blk2 a b c else none
def vrow (x : Option (Int × Int × Int)) : Value := match x with
  | none => .tuple #[.agg #[.int .u64 0, .int .u64 0, .int .u64 0, .string ⟨#[]⟩, .string ⟨#[]⟩], .bool false]
  | some (a, b, c) => .tuple #[.agg #[.int .u64 a, .int .u64 b, .int .u64 c, .string ⟨#[]⟩, .string ⟨#[]⟩], .bool true]

set_option maxRecDepth 100000 in
set_option maxHeartbeats 4000000 in
theorem block_calls (a b c : Int) (p m : ByteArray) (k : Int) (hk : 1 ≤ k ∧ k ≤ 3) (w : World) :
    Calls Tryd.prog 145 #[.agg #[.int .u64 a, .int .u64 b, .int .u64 c, .string p, .string m], .int .i64 k] w fun e w' => e = .returned (vrow (blkI (k - 1) a b c)) ∧ Below w.heap.size w w' := by
  have hu27 := Tryd.underlying27
  have hu129 := Tryd.underlying129
  obtain ⟨R, hR⟩ : ∃ R, blkI (k - 1) a b c = R := ⟨_, rfl⟩
  rw [hR]
  go_enter Tryd.func145, Tryd.ntmps145
  go_wp2
  obtain ⟨kk0, hkk0⟩ : ∃ kk0 : Nat, (kk0 : Int) = k + 1 := ⟨(k + 1).toNat, by omega⟩
  go_loopg [7] kk0 (fun kq v7 w' => ∃ (x7 n0 n1 n2 : Int), v7 = .int .i64 x7 ∧ Aside0 (x7 + 2 = kq) ∧ Aside0 (-1 ≤ x7 ∧ x7 ≤ 2) ∧ Aside0 (kq ≤ kk0) ∧ Aside0 (blkI x7 n0 n1 n2 = R) ∧ Aside0 (w'.heap[w.heap.size + 1 + 1]? = some (.cells #[.int .u64 n0, .int .u64 n1, .int .u64 n2] 129 (0, 0))) ∧ Aside0 (w'.heap[w.heap.size + 1]? = some (.cells #[.int .u64 0, .int .u64 0, .int .u64 0, .string ⟨#[]⟩, .string ⟨#[]⟩] 27 (0, 0))) ∧ Aside0 (Below w.heap.size w w'))
  case atStart =>
    have hmin : min 3 k - 1 = k - 1 := by omega
    refine ⟨_, a, b, c, rfl, ⟨by omega⟩, ⟨by omega⟩, ⟨Nat.le_refl _⟩, ⟨by rw [hmin]; exact hR⟩, ⟨?_⟩, ⟨?_⟩, ⟨chain (chain (below_new _ _) (below_new _ _)) (below_new _ _)⟩⟩
    · have h1 := heap_alloc_new ((w.alloc (.cells #[.int .u64 a, .int .u64 b, .int .u64 c, .string p, .string m] 27)).alloc (.cells #[.int .u64 0, .int .u64 0, .int .u64 0, .string ⟨#[]⟩, .string ⟨#[]⟩] 27)) (.cells #[.int .u64 a, .int .u64 b, .int .u64 c] 129)
      have e : ((w.alloc (.cells #[.int .u64 a, .int .u64 b, .int .u64 c, .string p, .string m] 27)).alloc (.cells #[.int .u64 0, .int .u64 0, .int .u64 0, .string ⟨#[]⟩, .string ⟨#[]⟩] 27)).heap.size = w.heap.size + 1 + 1 := by simp
      rw [e] at h1
      exact h1
    · have h1 := heap_alloc_new (w.alloc (.cells #[.int .u64 a, .int .u64 b, .int .u64 c, .string p, .string m] 27)) (.cells #[.int .u64 0, .int .u64 0, .int .u64 0, .string ⟨#[]⟩, .string ⟨#[]⟩] 27)
      have e : (w.alloc (.cells #[.int .u64 a, .int .u64 b, .int .u64 c, .string p, .string m] 27)).heap.size = w.heap.size + 1 := by simp
      rw [e] at h1
      exact (Below.heap_alloc _ _ _ (blk_lt h1)).trans h1
  case round =>
    obtain ⟨x7, n0, n1, n2, rfl, HA, HX, HK, HQ, BS, BR, HB⟩ := hrel
    cases gk with
    | zero => exact absurd HA.out (by have := HX.out; omega)
    | succ k1 =>
      clear hkk0 hR hk
      rename World => wo
      have hc0 : wo.cell? ⟨w.heap.size + 1 + 1, 0, none⟩ = some (.int .u64 n0) := (blk_cell BS.out 0).trans rfl
      have hc1 : wo.cell? ⟨w.heap.size + 1 + 1, 1, none⟩ = some (.int .u64 n1) := (blk_cell BS.out 1).trans rfl
      have hc2 : wo.cell? ⟨w.heap.size + 1 + 1, 2, none⟩ = some (.int .u64 n2) := (blk_cell BS.out 2).trans rfl
      have hf0 := blk_frozen BS.out 0
      have hf1 := blk_frozen BS.out 1
      have hf2 := blk_frozen BS.out 2
      by_cases c0 : x7 ≥ 0
      · have hx : x7 = 0 ∨ x7 = 1 ∨ x7 = 2 := by have := HX.out; omega
        rcases hx with rfl | rfl | rfl
        · have q00 : decide ((0 : Int) ≥ 0) = true := rfl
          go_wp2
          obtain ⟨kk, hkk⟩ : ∃ kk, kk = 3 - 0 := ⟨_, rfl⟩
          go_loopg [8] kk (fun kq v8 w' => ∃ (x8 m1 m2 : Int), v8 = .int .i64 x8 ∧ Aside0 (x8 + kq = 4) ∧ Aside0 (0 + 1 ≤ x8 ∧ x8 ≤ 3) ∧ Aside0 (kq ≤ kk) ∧ Aside0 ((2 ≤ x8 → m1 = 0) ∧ (3 ≤ x8 → m2 = 0)) ∧ Aside0 (w'.heap[w.heap.size + 1 + 1]? = some (.cells #[.int .u64 (up n0), .int .u64 m1, .int .u64 m2] 129 (0, 0))) ∧ Aside0 (w'.heap[w.heap.size + 1]? = some (.cells #[.int .u64 0, .int .u64 0, .int .u64 0, .string ⟨#[]⟩, .string ⟨#[]⟩] 27 (0, 0))) ∧ Aside0 (Below w.heap.size w w'))
          case atStart => exact ⟨_, _, _, rfl, ⟨by simp [hkk]⟩, ⟨by omega⟩, ⟨Nat.le_refl _⟩, ⟨⟨by first | exact (fun _ => rfl) | exact (fun h => absurd h (by decide)), by first | exact (fun _ => rfl) | exact (fun h => absurd h (by decide))⟩⟩, ⟨blk_put BS.out 0 _ rfl⟩, ⟨(Below.heap_setCell wo ⟨w.heap.size + 1 + 1, 0, none⟩ _ (w.heap.size + 1) (show w.heap.size + 1 ≠ w.heap.size + 1 + 1 by omega)).trans BR.out⟩, ⟨below_set HB.out (show w.heap.size ≤ w.heap.size + 1 + 1 by omega)⟩⟩
          case round =>
            obtain ⟨x8, m1, m2, rfl, HA1, HX1, HK1, HM, BS1, BR1, HB1⟩ := hrel
            clear hc0 hc1 hc2 hf0 hf1 hf2 hkk
            rename World => wi
            cases gk with
            | zero => exact absurd HA1.out (by have := HX1.out; omega)
            | succ k2 =>
              have hc0 : wi.cell? ⟨w.heap.size + 1 + 1, 0, none⟩ = some (.int .u64 (up n0)) := (blk_cell BS1.out 0).trans rfl
              have hc1 : wi.cell? ⟨w.heap.size + 1 + 1, 1, none⟩ = some (.int .u64 m1) := (blk_cell BS1.out 1).trans rfl
              have hc2 : wi.cell? ⟨w.heap.size + 1 + 1, 2, none⟩ = some (.int .u64 m2) := (blk_cell BS1.out 2).trans rfl
              have hf0 := blk_frozen BS1.out 0
              have hf1 := blk_frozen BS1.out 1
              have hf2 := blk_frozen BS1.out 2
              by_cases c8 : x8 < 3
              · have d8 : decide (x8 < 3) = true := decide_eq_true c8
                have hx8 : x8 = 1 ∨ x8 = 2 := by have := HX1.out; omega
                rcases hx8 with rfl | rfl
                · first
                  | (exfalso; have := HX1.out; omega)
                  | (go_wp2
                     go_roundg k2
                     case measure => have := HK1.out; omega
                     case rel => exact ⟨2, _, _, rfl, ⟨by have := HA1.out; omega⟩, ⟨by have := HX1.out; omega⟩, ⟨by have := HK1.out; omega⟩, ⟨⟨fun _ => rfl, fun h => absurd h (by decide)⟩⟩, ⟨blk_put BS1.out 1 _ rfl⟩, ⟨(Below.heap_setCell wi ⟨w.heap.size + 1 + 1, 1, none⟩ _ (w.heap.size + 1) (show w.heap.size + 1 ≠ w.heap.size + 1 + 1 by omega)).trans BR1.out⟩, ⟨below_set HB1.out (show w.heap.size ≤ w.heap.size + 1 + 1 by omega)⟩⟩)
                · first
                  | (exfalso; have := HX1.out; omega)
                  | (go_wp2
                     go_roundg k2
                     case measure => have := HK1.out; omega
                     case rel => exact ⟨3, _, _, rfl, ⟨by have := HA1.out; omega⟩, ⟨by have := HX1.out; omega⟩, ⟨by have := HK1.out; omega⟩, ⟨⟨fun _ => HM.out.1 (by decide), fun _ => rfl⟩⟩, ⟨blk_put BS1.out 2 _ rfl⟩, ⟨(Below.heap_setCell wi ⟨w.heap.size + 1 + 1, 2, none⟩ _ (w.heap.size + 1) (show w.heap.size + 1 ≠ w.heap.size + 1 + 1 by omega)).trans BR1.out⟩, ⟨below_set HB1.out (show w.heap.size ≤ w.heap.size + 1 + 1 by omega)⟩⟩)
              · have d8 : decide (x8 < 3) = false := decide_eq_false c8
                have h1 : m1 = 0 := HM.out.1 (by omega)
                have h2 : m2 = 0 := HM.out.2 (by omega)
                subst h1 h2
                have hr0 : wi.cell? ⟨w.heap.size + 1, 0, none⟩ = some (.int .u64 0) := (blk_cell BR1.out 0).trans rfl
                have hr1 : wi.cell? ⟨w.heap.size + 1, 1, none⟩ = some (.int .u64 0) := (blk_cell BR1.out 1).trans rfl
                have hr2 : wi.cell? ⟨w.heap.size + 1, 2, none⟩ = some (.int .u64 0) := (blk_cell BR1.out 2).trans rfl
                have hr3 : wi.cell? ⟨w.heap.size + 1, 3, none⟩ = some (.string ⟨#[]⟩) := (blk_cell BR1.out 3).trans rfl
                have hr4 : wi.cell? ⟨w.heap.size + 1, 4, none⟩ = some (.string ⟨#[]⟩) := (blk_cell BR1.out 4).trans rfl
                have hs0 := blk_frozen BR1.out 0
                have hs1 := blk_frozen BR1.out 1
                have hs2 := blk_frozen BR1.out 2
                have hs3 := blk_frozen BR1.out 3
                have hs4 := blk_frozen BR1.out 4
                by_cases hz : up n0 = 0
                · have z1 : (up n0 != 0) = false := by rw [hz]; rfl
                  go_wp2
                  go_roundg k1
                  case measure => have := HK.out; omega
                  case rel => exact ⟨(-1), _, _, _, rfl, ⟨by have := HA.out; omega⟩, ⟨by omega⟩, ⟨by have := HK.out; omega⟩, ⟨by rw [← HQ.out]; simp [blkI, blk2, blk1, blk0, hz]⟩, BS1, BR1, HB1⟩
                · have z1 : (up n0 != 0) = true := by simpa using hz
                  go_wp2
                  refine bodyPost_ret (results_ct (p := 4) (u := 5) (ty := 27) rfl _ _ (w.heap.size + 1) 27 _ (0, 0) _ rfl (put5_blk _ _ _ _ _ BR1.out) hu27 rfl (by kernel_rfl)) rfl ?_
                  exact ⟨by rw [← HQ.out]; simp [blkI, blk2, blk1, blk0, hz, vrow], put5_below _ _ _ _ _ HB1.out (show w.heap.size ≤ w.heap.size + 1 by omega)⟩
        · have q10 : decide ((1 : Int) ≥ 0) = true := rfl
          go_wp2
          obtain ⟨kk, hkk⟩ : ∃ kk, kk = 3 - 1 := ⟨_, rfl⟩
          go_loopg [8] kk (fun kq v8 w' => ∃ (x8 m1 m2 : Int), v8 = .int .i64 x8 ∧ Aside0 (x8 + kq = 4) ∧ Aside0 (1 + 1 ≤ x8 ∧ x8 ≤ 3) ∧ Aside0 (kq ≤ kk) ∧ Aside0 ((2 ≤ x8 → m1 = (up n1)) ∧ (3 ≤ x8 → m2 = 0)) ∧ Aside0 (w'.heap[w.heap.size + 1 + 1]? = some (.cells #[.int .u64 n0, .int .u64 m1, .int .u64 m2] 129 (0, 0))) ∧ Aside0 (w'.heap[w.heap.size + 1]? = some (.cells #[.int .u64 0, .int .u64 0, .int .u64 0, .string ⟨#[]⟩, .string ⟨#[]⟩] 27 (0, 0))) ∧ Aside0 (Below w.heap.size w w'))
          case atStart => exact ⟨_, _, _, rfl, ⟨by simp [hkk]⟩, ⟨by omega⟩, ⟨Nat.le_refl _⟩, ⟨⟨by first | exact (fun _ => rfl) | exact (fun h => absurd h (by decide)), by first | exact (fun _ => rfl) | exact (fun h => absurd h (by decide))⟩⟩, ⟨blk_put BS.out 1 _ rfl⟩, ⟨(Below.heap_setCell wo ⟨w.heap.size + 1 + 1, 1, none⟩ _ (w.heap.size + 1) (show w.heap.size + 1 ≠ w.heap.size + 1 + 1 by omega)).trans BR.out⟩, ⟨below_set HB.out (show w.heap.size ≤ w.heap.size + 1 + 1 by omega)⟩⟩
          case round =>
            obtain ⟨x8, m1, m2, rfl, HA1, HX1, HK1, HM, BS1, BR1, HB1⟩ := hrel
            clear hc0 hc1 hc2 hf0 hf1 hf2 hkk
            rename World => wi
            cases gk with
            | zero => exact absurd HA1.out (by have := HX1.out; omega)
            | succ k2 =>
              have hc0 : wi.cell? ⟨w.heap.size + 1 + 1, 0, none⟩ = some (.int .u64 n0) := (blk_cell BS1.out 0).trans rfl
              have hc1 : wi.cell? ⟨w.heap.size + 1 + 1, 1, none⟩ = some (.int .u64 m1) := (blk_cell BS1.out 1).trans rfl
              have hc2 : wi.cell? ⟨w.heap.size + 1 + 1, 2, none⟩ = some (.int .u64 m2) := (blk_cell BS1.out 2).trans rfl
              have hf0 := blk_frozen BS1.out 0
              have hf1 := blk_frozen BS1.out 1
              have hf2 := blk_frozen BS1.out 2
              by_cases c8 : x8 < 3
              · have d8 : decide (x8 < 3) = true := decide_eq_true c8
                have hx8 : x8 = 1 ∨ x8 = 2 := by have := HX1.out; omega
                rcases hx8 with rfl | rfl
                · first
                  | (exfalso; have := HX1.out; omega)
                  | (go_wp2
                     go_roundg k2
                     case measure => have := HK1.out; omega
                     case rel => exact ⟨2, _, _, rfl, ⟨by have := HA1.out; omega⟩, ⟨by have := HX1.out; omega⟩, ⟨by have := HK1.out; omega⟩, ⟨⟨fun _ => rfl, fun h => absurd h (by decide)⟩⟩, ⟨blk_put BS1.out 1 _ rfl⟩, ⟨(Below.heap_setCell wi ⟨w.heap.size + 1 + 1, 1, none⟩ _ (w.heap.size + 1) (show w.heap.size + 1 ≠ w.heap.size + 1 + 1 by omega)).trans BR1.out⟩, ⟨below_set HB1.out (show w.heap.size ≤ w.heap.size + 1 + 1 by omega)⟩⟩)
                · first
                  | (exfalso; have := HX1.out; omega)
                  | (go_wp2
                     go_roundg k2
                     case measure => have := HK1.out; omega
                     case rel => exact ⟨3, _, _, rfl, ⟨by have := HA1.out; omega⟩, ⟨by have := HX1.out; omega⟩, ⟨by have := HK1.out; omega⟩, ⟨⟨fun _ => HM.out.1 (by decide), fun _ => rfl⟩⟩, ⟨blk_put BS1.out 2 _ rfl⟩, ⟨(Below.heap_setCell wi ⟨w.heap.size + 1 + 1, 2, none⟩ _ (w.heap.size + 1) (show w.heap.size + 1 ≠ w.heap.size + 1 + 1 by omega)).trans BR1.out⟩, ⟨below_set HB1.out (show w.heap.size ≤ w.heap.size + 1 + 1 by omega)⟩⟩)
              · have d8 : decide (x8 < 3) = false := decide_eq_false c8
                have h1 : m1 = (up n1) := HM.out.1 (by omega)
                have h2 : m2 = 0 := HM.out.2 (by omega)
                subst h1 h2
                have hr0 : wi.cell? ⟨w.heap.size + 1, 0, none⟩ = some (.int .u64 0) := (blk_cell BR1.out 0).trans rfl
                have hr1 : wi.cell? ⟨w.heap.size + 1, 1, none⟩ = some (.int .u64 0) := (blk_cell BR1.out 1).trans rfl
                have hr2 : wi.cell? ⟨w.heap.size + 1, 2, none⟩ = some (.int .u64 0) := (blk_cell BR1.out 2).trans rfl
                have hr3 : wi.cell? ⟨w.heap.size + 1, 3, none⟩ = some (.string ⟨#[]⟩) := (blk_cell BR1.out 3).trans rfl
                have hr4 : wi.cell? ⟨w.heap.size + 1, 4, none⟩ = some (.string ⟨#[]⟩) := (blk_cell BR1.out 4).trans rfl
                have hs0 := blk_frozen BR1.out 0
                have hs1 := blk_frozen BR1.out 1
                have hs2 := blk_frozen BR1.out 2
                have hs3 := blk_frozen BR1.out 3
                have hs4 := blk_frozen BR1.out 4
                by_cases hz : up n1 = 0
                · have z1 : (up n1 != 0) = false := by rw [hz]; rfl
                  go_wp2
                  go_roundg k1
                  case measure => have := HK.out; omega
                  case rel => exact ⟨0, _, _, _, rfl, ⟨by have := HA.out; omega⟩, ⟨by omega⟩, ⟨by have := HK.out; omega⟩, ⟨by rw [← HQ.out]; simp [blkI, blk2, blk1, blk0, hz]⟩, BS1, BR1, HB1⟩
                · have z1 : (up n1 != 0) = true := by simpa using hz
                  go_wp2
                  refine bodyPost_ret (results_ct (p := 4) (u := 5) (ty := 27) rfl _ _ (w.heap.size + 1) 27 _ (0, 0) _ rfl (put5_blk _ _ _ _ _ BR1.out) hu27 rfl (by kernel_rfl)) rfl ?_
                  exact ⟨by rw [← HQ.out]; simp [blkI, blk2, blk1, blk0, hz, vrow], put5_below _ _ _ _ _ HB1.out (show w.heap.size ≤ w.heap.size + 1 by omega)⟩
        · have q20 : decide ((2 : Int) ≥ 0) = true := rfl
          go_wp2
          obtain ⟨kk, hkk⟩ : ∃ kk, kk = 3 - 2 := ⟨_, rfl⟩
          go_loopg [8] kk (fun kq v8 w' => ∃ (x8 m1 m2 : Int), v8 = .int .i64 x8 ∧ Aside0 (x8 + kq = 4) ∧ Aside0 (2 + 1 ≤ x8 ∧ x8 ≤ 3) ∧ Aside0 (kq ≤ kk) ∧ Aside0 ((2 ≤ x8 → m1 = n1) ∧ (3 ≤ x8 → m2 = (up n2))) ∧ Aside0 (w'.heap[w.heap.size + 1 + 1]? = some (.cells #[.int .u64 n0, .int .u64 m1, .int .u64 m2] 129 (0, 0))) ∧ Aside0 (w'.heap[w.heap.size + 1]? = some (.cells #[.int .u64 0, .int .u64 0, .int .u64 0, .string ⟨#[]⟩, .string ⟨#[]⟩] 27 (0, 0))) ∧ Aside0 (Below w.heap.size w w'))
          case atStart => exact ⟨_, _, _, rfl, ⟨by simp [hkk]⟩, ⟨by omega⟩, ⟨Nat.le_refl _⟩, ⟨⟨by first | exact (fun _ => rfl) | exact (fun h => absurd h (by decide)), by first | exact (fun _ => rfl) | exact (fun h => absurd h (by decide))⟩⟩, ⟨blk_put BS.out 2 _ rfl⟩, ⟨(Below.heap_setCell wo ⟨w.heap.size + 1 + 1, 2, none⟩ _ (w.heap.size + 1) (show w.heap.size + 1 ≠ w.heap.size + 1 + 1 by omega)).trans BR.out⟩, ⟨below_set HB.out (show w.heap.size ≤ w.heap.size + 1 + 1 by omega)⟩⟩
          case round =>
            obtain ⟨x8, m1, m2, rfl, HA1, HX1, HK1, HM, BS1, BR1, HB1⟩ := hrel
            clear hc0 hc1 hc2 hf0 hf1 hf2 hkk
            rename World => wi
            cases gk with
            | zero => exact absurd HA1.out (by have := HX1.out; omega)
            | succ k2 =>
              have hc0 : wi.cell? ⟨w.heap.size + 1 + 1, 0, none⟩ = some (.int .u64 n0) := (blk_cell BS1.out 0).trans rfl
              have hc1 : wi.cell? ⟨w.heap.size + 1 + 1, 1, none⟩ = some (.int .u64 m1) := (blk_cell BS1.out 1).trans rfl
              have hc2 : wi.cell? ⟨w.heap.size + 1 + 1, 2, none⟩ = some (.int .u64 m2) := (blk_cell BS1.out 2).trans rfl
              have hf0 := blk_frozen BS1.out 0
              have hf1 := blk_frozen BS1.out 1
              have hf2 := blk_frozen BS1.out 2
              by_cases c8 : x8 < 3
              · have d8 : decide (x8 < 3) = true := decide_eq_true c8
                have hx8 : x8 = 1 ∨ x8 = 2 := by have := HX1.out; omega
                rcases hx8 with rfl | rfl
                · first
                  | (exfalso; have := HX1.out; omega)
                  | (go_wp2
                     go_roundg k2
                     case measure => have := HK1.out; omega
                     case rel => exact ⟨2, _, _, rfl, ⟨by have := HA1.out; omega⟩, ⟨by have := HX1.out; omega⟩, ⟨by have := HK1.out; omega⟩, ⟨⟨fun _ => rfl, fun h => absurd h (by decide)⟩⟩, ⟨blk_put BS1.out 1 _ rfl⟩, ⟨(Below.heap_setCell wi ⟨w.heap.size + 1 + 1, 1, none⟩ _ (w.heap.size + 1) (show w.heap.size + 1 ≠ w.heap.size + 1 + 1 by omega)).trans BR1.out⟩, ⟨below_set HB1.out (show w.heap.size ≤ w.heap.size + 1 + 1 by omega)⟩⟩)
                · first
                  | (exfalso; have := HX1.out; omega)
                  | (go_wp2
                     go_roundg k2
                     case measure => have := HK1.out; omega
                     case rel => exact ⟨3, _, _, rfl, ⟨by have := HA1.out; omega⟩, ⟨by have := HX1.out; omega⟩, ⟨by have := HK1.out; omega⟩, ⟨⟨fun _ => HM.out.1 (by decide), fun _ => rfl⟩⟩, ⟨blk_put BS1.out 2 _ rfl⟩, ⟨(Below.heap_setCell wi ⟨w.heap.size + 1 + 1, 2, none⟩ _ (w.heap.size + 1) (show w.heap.size + 1 ≠ w.heap.size + 1 + 1 by omega)).trans BR1.out⟩, ⟨below_set HB1.out (show w.heap.size ≤ w.heap.size + 1 + 1 by omega)⟩⟩)
              · have d8 : decide (x8 < 3) = false := decide_eq_false c8
                have h1 : m1 = n1 := HM.out.1 (by omega)
                have h2 : m2 = (up n2) := HM.out.2 (by omega)
                subst h1 h2
                have hr0 : wi.cell? ⟨w.heap.size + 1, 0, none⟩ = some (.int .u64 0) := (blk_cell BR1.out 0).trans rfl
                have hr1 : wi.cell? ⟨w.heap.size + 1, 1, none⟩ = some (.int .u64 0) := (blk_cell BR1.out 1).trans rfl
                have hr2 : wi.cell? ⟨w.heap.size + 1, 2, none⟩ = some (.int .u64 0) := (blk_cell BR1.out 2).trans rfl
                have hr3 : wi.cell? ⟨w.heap.size + 1, 3, none⟩ = some (.string ⟨#[]⟩) := (blk_cell BR1.out 3).trans rfl
                have hr4 : wi.cell? ⟨w.heap.size + 1, 4, none⟩ = some (.string ⟨#[]⟩) := (blk_cell BR1.out 4).trans rfl
                have hs0 := blk_frozen BR1.out 0
                have hs1 := blk_frozen BR1.out 1
                have hs2 := blk_frozen BR1.out 2
                have hs3 := blk_frozen BR1.out 3
                have hs4 := blk_frozen BR1.out 4
                by_cases hz : up n2 = 0
                · have z1 : (up n2 != 0) = false := by rw [hz]; rfl
                  go_wp2
                  go_roundg k1
                  case measure => have := HK.out; omega
                  case rel => exact ⟨1, _, _, _, rfl, ⟨by have := HA.out; omega⟩, ⟨by omega⟩, ⟨by have := HK.out; omega⟩, ⟨by rw [← HQ.out]; simp [blkI, blk2, blk1, blk0, hz]⟩, BS1, BR1, HB1⟩
                · have z1 : (up n2 != 0) = true := by simpa using hz
                  go_wp2
                  refine bodyPost_ret (results_ct (p := 4) (u := 5) (ty := 27) rfl _ _ (w.heap.size + 1) 27 _ (0, 0) _ rfl (put5_blk _ _ _ _ _ BR1.out) hu27 rfl (by kernel_rfl)) rfl ?_
                  exact ⟨by rw [← HQ.out]; simp [blkI, blk2, blk1, blk0, hz, vrow], put5_below _ _ _ _ _ HB1.out (show w.heap.size ≤ w.heap.size + 1 by omega)⟩
      · have cb : decide (x7 ≥ 0) = false := decide_eq_false c0
        have e7 : x7 = -1 := by have := HX.out; omega
        subst e7
        clear hc0 hc1 hc2 hf0 hf1 hf2
        have hr0 : wo.cell? ⟨w.heap.size + 1, 0, none⟩ = some (.int .u64 0) := (blk_cell BR.out 0).trans rfl
        have hr1 : wo.cell? ⟨w.heap.size + 1, 1, none⟩ = some (.int .u64 0) := (blk_cell BR.out 1).trans rfl
        have hr2 : wo.cell? ⟨w.heap.size + 1, 2, none⟩ = some (.int .u64 0) := (blk_cell BR.out 2).trans rfl
        have hr3 : wo.cell? ⟨w.heap.size + 1, 3, none⟩ = some (.string ⟨#[]⟩) := (blk_cell BR.out 3).trans rfl
        have hr4 : wo.cell? ⟨w.heap.size + 1, 4, none⟩ = some (.string ⟨#[]⟩) := (blk_cell BR.out 4).trans rfl
        have hs0 := blk_frozen BR.out 0
        have hs1 := blk_frozen BR.out 1
        have hs2 := blk_frozen BR.out 2
        have hs3 := blk_frozen BR.out 3
        have hs4 := blk_frozen BR.out 4
        go_wp2
        refine bodyPost_ret (results_ct (p := 4) (u := 5) (ty := 27) rfl _ _ (w.heap.size + 1) 27 _ (0, 0) _ rfl (put5_blk _ _ _ _ _ BR.out) hu27 rfl (by kernel_rfl)) rfl ?_
        exact ⟨by rw [← HQ.out]; rfl, put5_below _ _ _ _ _ HB.out (show w.heap.size ≤ w.heap.size + 1 by omega)⟩
end Go.Proofs.YtgenbmhmcnaiiaaDoor.H

/- spec.blocks: what spec.Block gives for one, two and three numbers. -/
namespace Go.Proofs.YtgenbmhmcnaiiaaDoor.H
open Go.RowKit Go.Proofs.YtgenbmhmcnaiiaaDoor.PG Go.Proofs.YtgenbmhmcnaiiaaDoorW.PrintWords Go.Proofs.YtgenbmhmcnaiiaaDoorW.PrintLast Go.Proofs.YtgenbmhmcnaiiaaDoorW.PrintMore
set_option linter.unusedVariables false
set_option linter.unusedSimpArgs false

def rel3 (x : Int × Int × Int) : S27 := ⟨x.1, x.2.1, x.2.2, ⟨#[]⟩, ⟨#[]⟩⟩
def blkL (i a b c : Int) : List S27 := ((blkI i a b c).map rel3).toList
def blocksTo (n a b c : Int) : List S27 := (if 2 ≤ n then blkL 0 a b c else []) ++ (if 3 ≤ n then blkL 1 a b c else []) ++ (if 4 ≤ n then blkL 2 a b c else [])
theorem info27 : (Tryd.prog.info? 27).map (fun i => (i.zero, i.size, i.bytes)) = some (some (.agg #[.int .u64 0, .int .u64 0, .int .u64 0, .string ⟨#[]⟩, .string ⟨#[]⟩]), 5, 56) := by kernel_rfl
theorem blkL_len (i a b c : Int) : (blkL i a b c).length ≤ 1 := by
  unfold blkL
  cases blkI i a b c <;> simp
theorem blocksTo_len (n a b c : Int) : (blocksTo n a b c).length ≤ 3 := by
  have h0 := blkL_len 0 a b c
  have h1 := blkL_len 1 a b c
  have h2 := blkL_len 2 a b c
  unfold blocksTo
  simp only [List.length_append]
  have e : ([] : List S27).length = 0 := rfl
  split <;> split <;> split <;> omega

set_option maxRecDepth 100000 in
set_option maxHeartbeats 4000000 in
theorem blocks_calls (a b c : Int) (p m : ByteArray) (w : World) :
    Calls Tryd.prog 116 #[.agg #[.int .u64 a, .int .u64 b, .int .u64 c, .string p, .string m]] w fun e w' => (∃ v, e = .returned v ∧ Kd.R k27 27 w' w.heap.size (fun _ => True) v (blocksTo 4 a b c)) ∧ Below w.heap.size w w' := by
  have hu27 := Tryd.underlying27
  have hu43 := Tryd.underlying43
  go_enter Tryd.func116, Tryd.ntmps116
  go_wp2
  have hB0 := below_new w (.cells #[.int .u64 a, .int .u64 b, .int .u64 c, .string p, .string m] 27)
  have hV0 := heap_alloc_new w (.cells #[.int .u64 a, .int .u64 b, .int .u64 c, .string p, .string m] 27)
  generalize w.alloc (.cells #[.int .u64 a, .int .u64 b, .int .u64 c, .string p, .string m] 27) = wb at *
  go_loopg [3, 4] 4 (fun kq v3 v4 w' => ∃ (x4 : Int), v4 = .int .i64 x4 ∧ Aside0 (x4 + kq = 5) ∧ Aside0 (1 ≤ x4 ∧ x4 ≤ 4) ∧ Aside0 (kq ≤ 4) ∧ Aside0 (Kd.R k27 27 w' wb.heap.size (fun _ => True) v3 (blocksTo x4 a b c)) ∧ Aside0 (Below wb.heap.size wb w'))
  case atStart => exact ⟨1, rfl, ⟨by omega⟩, ⟨by omega⟩, ⟨Nat.le_refl _⟩, ⟨Kd.R_nil _ _ _ _ _⟩, ⟨Below.refl _ _⟩⟩
  case round =>
    obtain ⟨x4, rfl, HA, HX, HK, HO, HB⟩ := hrel
    cases gk with
    | zero => exact absurd HA.out (by have := HX.out; omega)
    | succ k1 =>
      rename World => wo
      have BS : wo.heap[w.heap.size]? = some (.cells #[.int .u64 a, .int .u64 b, .int .u64 c, .string p, .string m] 27 (0, 0)) := (HB.out.block _ (blk_lt hV0)).trans hV0
      have hc0 : wo.cell? ⟨w.heap.size, 0, none⟩ = some (.int .u64 a) := (blk_cell BS 0).trans rfl
      have hc1 : wo.cell? ⟨w.heap.size, 1, none⟩ = some (.int .u64 b) := (blk_cell BS 1).trans rfl
      have hc2 : wo.cell? ⟨w.heap.size, 2, none⟩ = some (.int .u64 c) := (blk_cell BS 2).trans rfl
      have hc3 : wo.cell? ⟨w.heap.size, 3, none⟩ = some (.string p) := (blk_cell BS 3).trans rfl
      have hc4 : wo.cell? ⟨w.heap.size, 4, none⟩ = some (.string m) := (blk_cell BS 4).trans rfl
      clear BS
      have hx : x4 = 1 ∨ x4 = 2 ∨ x4 = 3 ∨ x4 = 4 := by have := HX.out; omega
      rcases hx with rfl | rfl | rfl | rfl
      · have d : decide ((1 : Int) ≤ 3) = true := rfl
        have C0 := Lib.hid (fun W => block_calls a b c p m 1 (by omega) W)
        rw [show (1 : Int) - 1 = 0 from rfl] at C0
        cases hX : blkI 0 a b c with
        | none =>
          rw [hX] at C0
          dsimp only [vrow] at C0
          have hT : blocksTo 2 a b c = blocksTo 1 a b c := by simp [blocksTo, blkL, hX]
          go_wp2_with (go_at_call 145; refine (C0.out _).mono ?_; rintro e w1 ⟨rfl, hb⟩; have BM := Aside0.mk hb; clear hb)
          go_roundg k1
          case measure => have := HK.out; omega
          case rel => exact ⟨2, rfl, ⟨by have := HA.out; omega⟩, ⟨by omega⟩, ⟨by have := HK.out; omega⟩, ⟨by rw [hT]; exact Kd.R_below HO.out (chain BM.out (below_new _ _))⟩, ⟨chain HB.out (chain BM.out (below_new _ _))⟩⟩
        | some q =>
          obtain ⟨x, y, z⟩ := q
          rw [hX] at C0
          dsimp only [vrow] at C0
          have hT : blocksTo 1 a b c ++ [rel3 (x, y, z)] = blocksTo 2 a b c := by simp [blocksTo, blkL, hX]
          go_wp2_with (first
            | (go_at_call 145; refine (C0.out _).mono ?_; rintro e w1 ⟨rfl, hb⟩; have BM := Aside0.mk hb; clear hb)
            | ((with_reducible refine gate_builtin (b := .append) (xs := #[.tmp 18, .tmp 20]) rfl ?_); at_builtin; refine Kd.R_append k27 (w0 := wb) wb.heap.size rfl (.tmp 18) (.tmp 20) 43 27 (.agg #[.int .u64 0, .int .u64 0, .int .u64 0, .string ⟨#[]⟩, .string ⟨#[]⟩]) 56 rfl Tryd.underlying43 info27 rfl (by decide) (by omega) u3 (blocksTo 1 a b c) (rel3 (x, y, z)) [.int .u64 x, .int .u64 y, .int .u64 z, .string ⟨#[]⟩, .string ⟨#[]⟩] (fun _ => True) (fun _ => False) rfl ?aX ?aP (fun _ hk => hk.elim) (fun _ _ => trivial) ?aO ?aB ?aS ?aL ?_; (case aX => first | rfl | (show Value.slice _ 1 1 = _; simp)); (case aP => exact k27_mkM _ _ _ (rel3 (x, y, z))); (case aO => exact Kd.R_below HO.out (chain BM.out (below_new _ _))); (case aB => exact chain HB.out (chain BM.out (below_new _ _))); (case aS => exact (chain HB.out (chain BM.out (below_new _ _))).size); (case aL => have := blocksTo_len 1 a b c; omega); intro v1 w11 ho hb hg hat; rw [hT] at ho; have HO2 := Aside0.mk ho; have HB2 := Aside0.mk hb; clear ho hb hg hat))
          go_roundg k1
          case measure => have := HK.out; omega
          case rel => exact ⟨2, rfl, ⟨by have := HA.out; omega⟩, ⟨by omega⟩, ⟨by have := HK.out; omega⟩, HO2, HB2⟩
      · have d : decide ((2 : Int) ≤ 3) = true := rfl
        have C0 := Lib.hid (fun W => block_calls a b c p m 2 (by omega) W)
        rw [show (2 : Int) - 1 = 1 from rfl] at C0
        cases hX : blkI 1 a b c with
        | none =>
          rw [hX] at C0
          dsimp only [vrow] at C0
          have hT : blocksTo 3 a b c = blocksTo 2 a b c := by simp [blocksTo, blkL, hX]
          go_wp2_with (go_at_call 145; refine (C0.out _).mono ?_; rintro e w1 ⟨rfl, hb⟩; have BM := Aside0.mk hb; clear hb)
          go_roundg k1
          case measure => have := HK.out; omega
          case rel => exact ⟨3, rfl, ⟨by have := HA.out; omega⟩, ⟨by omega⟩, ⟨by have := HK.out; omega⟩, ⟨by rw [hT]; exact Kd.R_below HO.out (chain BM.out (below_new _ _))⟩, ⟨chain HB.out (chain BM.out (below_new _ _))⟩⟩
        | some q =>
          obtain ⟨x, y, z⟩ := q
          rw [hX] at C0
          dsimp only [vrow] at C0
          have hT : blocksTo 2 a b c ++ [rel3 (x, y, z)] = blocksTo 3 a b c := by simp [blocksTo, blkL, hX]
          go_wp2_with (first
            | (go_at_call 145; refine (C0.out _).mono ?_; rintro e w1 ⟨rfl, hb⟩; have BM := Aside0.mk hb; clear hb)
            | ((with_reducible refine gate_builtin (b := .append) (xs := #[.tmp 18, .tmp 20]) rfl ?_); at_builtin; refine Kd.R_append k27 (w0 := wb) wb.heap.size rfl (.tmp 18) (.tmp 20) 43 27 (.agg #[.int .u64 0, .int .u64 0, .int .u64 0, .string ⟨#[]⟩, .string ⟨#[]⟩]) 56 rfl Tryd.underlying43 info27 rfl (by decide) (by omega) u3 (blocksTo 2 a b c) (rel3 (x, y, z)) [.int .u64 x, .int .u64 y, .int .u64 z, .string ⟨#[]⟩, .string ⟨#[]⟩] (fun _ => True) (fun _ => False) rfl ?aX ?aP (fun _ hk => hk.elim) (fun _ _ => trivial) ?aO ?aB ?aS ?aL ?_; (case aX => first | rfl | (show Value.slice _ 1 1 = _; simp)); (case aP => exact k27_mkM _ _ _ (rel3 (x, y, z))); (case aO => exact Kd.R_below HO.out (chain BM.out (below_new _ _))); (case aB => exact chain HB.out (chain BM.out (below_new _ _))); (case aS => exact (chain HB.out (chain BM.out (below_new _ _))).size); (case aL => have := blocksTo_len 2 a b c; omega); intro v1 w11 ho hb hg hat; rw [hT] at ho; have HO2 := Aside0.mk ho; have HB2 := Aside0.mk hb; clear ho hb hg hat))
          go_roundg k1
          case measure => have := HK.out; omega
          case rel => exact ⟨3, rfl, ⟨by have := HA.out; omega⟩, ⟨by omega⟩, ⟨by have := HK.out; omega⟩, HO2, HB2⟩
      · have d : decide ((3 : Int) ≤ 3) = true := rfl
        have C0 := Lib.hid (fun W => block_calls a b c p m 3 (by omega) W)
        rw [show (3 : Int) - 1 = 2 from rfl] at C0
        cases hX : blkI 2 a b c with
        | none =>
          rw [hX] at C0
          dsimp only [vrow] at C0
          have hT : blocksTo 4 a b c = blocksTo 3 a b c := by simp [blocksTo, blkL, hX]
          go_wp2_with (go_at_call 145; refine (C0.out _).mono ?_; rintro e w1 ⟨rfl, hb⟩; have BM := Aside0.mk hb; clear hb)
          go_roundg k1
          case measure => have := HK.out; omega
          case rel => exact ⟨4, rfl, ⟨by have := HA.out; omega⟩, ⟨by omega⟩, ⟨by have := HK.out; omega⟩, ⟨by rw [hT]; exact Kd.R_below HO.out (chain BM.out (below_new _ _))⟩, ⟨chain HB.out (chain BM.out (below_new _ _))⟩⟩
        | some q =>
          obtain ⟨x, y, z⟩ := q
          rw [hX] at C0
          dsimp only [vrow] at C0
          have hT : blocksTo 3 a b c ++ [rel3 (x, y, z)] = blocksTo 4 a b c := by simp [blocksTo, blkL, hX]
          go_wp2_with (first
            | (go_at_call 145; refine (C0.out _).mono ?_; rintro e w1 ⟨rfl, hb⟩; have BM := Aside0.mk hb; clear hb)
            | ((with_reducible refine gate_builtin (b := .append) (xs := #[.tmp 18, .tmp 20]) rfl ?_); at_builtin; refine Kd.R_append k27 (w0 := wb) wb.heap.size rfl (.tmp 18) (.tmp 20) 43 27 (.agg #[.int .u64 0, .int .u64 0, .int .u64 0, .string ⟨#[]⟩, .string ⟨#[]⟩]) 56 rfl Tryd.underlying43 info27 rfl (by decide) (by omega) u3 (blocksTo 3 a b c) (rel3 (x, y, z)) [.int .u64 x, .int .u64 y, .int .u64 z, .string ⟨#[]⟩, .string ⟨#[]⟩] (fun _ => True) (fun _ => False) rfl ?aX ?aP (fun _ hk => hk.elim) (fun _ _ => trivial) ?aO ?aB ?aS ?aL ?_; (case aX => first | rfl | (show Value.slice _ 1 1 = _; simp)); (case aP => exact k27_mkM _ _ _ (rel3 (x, y, z))); (case aO => exact Kd.R_below HO.out (chain BM.out (below_new _ _))); (case aB => exact chain HB.out (chain BM.out (below_new _ _))); (case aS => exact (chain HB.out (chain BM.out (below_new _ _))).size); (case aL => have := blocksTo_len 3 a b c; omega); intro v1 w11 ho hb hg hat; rw [hT] at ho; have HO2 := Aside0.mk ho; have HB2 := Aside0.mk hb; clear ho hb hg hat))
          go_roundg k1
          case measure => have := HK.out; omega
          case rel => exact ⟨4, rfl, ⟨by have := HA.out; omega⟩, ⟨by omega⟩, ⟨by have := HK.out; omega⟩, HO2, HB2⟩
      · have d : decide ((4 : Int) ≤ 3) = false := rfl
        go_wp2
        go_ret
        exact ⟨⟨_, rfl, Kd.R_lower HO.out hB0.size⟩, chain hB0 HB.out⟩
end Go.Proofs.YtgenbmhmcnaiiaaDoor.H

/- spec.once: a list of versions with those of some others behind it that are not in it. -/
namespace Go.Proofs.YtgenbmhmcnaiiaaDoor.H
open Go.RowKit Go.Proofs.YtgenbmhmcnaiiaaDoor.PG Go.Proofs.YtgenbmhmcnaiiaaDoorW.PrintWords Go.Proofs.YtgenbmhmcnaiiaaDoorW.PrintLast Go.Proofs.YtgenbmhmcnaiiaaDoorW.PrintMore
attribute [local go_sem high] eqA27
set_option linter.unusedVariables false
set_option linter.unusedSimpArgs false

/-- Of the blocks of an elder world all but one stay. -/
def Keeps (w w' : World) (row : Option Nat) : Prop := w.heap.size ≤ w'.heap.size ∧ ∀ k, k < w.heap.size → some k ≠ row → w'.heap[k]? = w.heap[k]?
theorem Keeps.refl (w : World) (row : Option Nat) : Keeps w w row := ⟨Nat.le_refl _, fun _ _ _ => rfl⟩
theorem Keeps.of_below {w w' : World} (row : Option Nat) (h : Below w.heap.size w w') : Keeps w w' row := ⟨h.size, fun k hk _ => h.block k hk⟩
theorem Keeps.of_grown {w w' : World} {row : Option Nat} (h : w.grownBy w' row) : Keeps w w' row := ⟨h.size, fun k hk hr => h.block k hk hr⟩
theorem Keeps.trans {w w1 w2 : World} {row row' : Option Nat} (h : Keeps w w1 row) (h' : Keeps w1 w2 row') (hr : row' = row ∨ ∃ b, row' = some b ∧ w.heap.size ≤ b) : Keeps w w2 row := by
  refine ⟨Nat.le_trans h.1 h'.1, fun k hk hne => (h'.2 k (Nat.lt_of_lt_of_le hk h.1) ?_).trans (h.2 k hk hne)⟩
  rcases hr with rfl | ⟨b, rfl, hb⟩
  · exact hne
  · intro e
    cases e
    omega
theorem Keeps.then_below {w w1 w2 : World} {row : Option Nat} (h : Keeps w w1 row) (h' : Below w1.heap.size w1 w2) : Keeps w w2 row := h.trans (Keeps.of_below row h') (.inl rfl)
theorem add_block (a : Addr) (n : Nat) : (a.add n).block = a.block := by
  unfold Addr.add
  split <;> rfl
theorem cell_same {w w' : World} {a : Addr} {u : Value} (h : w.cell? a = some u) (e : w'.heap[a.block]? = w.heap[a.block]?) : w'.cell? a = some u := by
  rw [← h]
  unfold World.cell?
  rw [e]
theorem Keeps.cell {w w' : World} {row : Option Nat} (h : Keeps w w' row) {a : Addr} {u : Value} (hc : w.cell? a = some u) (hr : some a.block ≠ row) : w'.cell? a = some u :=
  cell_same hc (h.2 _ (World.block_lt_of_cell? w _ hc) hr)

def eqb (x y : S27) : Bool := x.f0 == y.f0 && (x.f1 == y.f1 && (x.f2 == y.f2 && (x.f3.toList == y.f3.toList && (x.f4.toList == y.f4.toList))))
def once1 (l : List S27) (v : S27) : List S27 := if l.any (eqb v) = true then l else l ++ [v]
def onceL (l more : List S27) : List S27 := more.foldl once1 l
theorem once1_len (l : List S27) (v : S27) : (once1 l v).length ≤ l.length + 1 := by
  unfold once1
  split <;> simp
theorem onceL_len (l more : List S27) : (onceL l more).length ≤ l.length + more.length := by
  unfold onceL
  induction more generalizing l with
  | nil => simp
  | cons x xs ih =>
    have := once1_len l x
    have := ih (once1 l x)
    simp only [List.foldl_cons, List.length_cons]
    omega

set_option maxRecDepth 100000 in
set_option maxHeartbeats 4000000 in
theorem once_calls (w0 w : World) (v0 : Value) (l : List S27) (A1 : Option Addr) (c1 : Nat) (more : List S27) (hB : Below w0.heap.size w0 w) (hl : Kd.R k27 27 w w0.heap.size (fun _ => True) v0 l) (hm : Kd.C k27 w A1 more.length more) (hsep : ∀ ad, A1 = some ad → some ad.block ≠ v0.ownBlock) (hs : l.length + more.length ≤ 2147483647) :
    Calls Tryd.prog 115 #[v0, .slice A1 more.length c1] w fun e w' => (∃ v, e = .returned v ∧ Kd.R k27 27 w' w0.heap.size (fun _ => True) v (onceL l more) ∧ (v.ownBlock = v0.ownBlock ∨ ∃ b, v.ownBlock = some b ∧ w.heap.size ≤ b)) ∧ Keeps w w' v0.ownBlock ∧ Below w0.heap.size w0 w' := by
  have hu27 := Tryd.underlying27
  have hu43 := Tryd.underlying43
  have HB := Aside0.mk hB
  have HL := Aside0.mk hl
  have HM := Aside0.mk hm
  have HS := Aside0.mk hs
  have HP := Aside0.mk hsep
  clear hB hl hm hsep
  obtain ⟨k, hk⟩ : ∃ k, k = more.length + 1 := ⟨_, rfl⟩
  go_enter Tryd.func115, Tryd.ntmps115
  go_wp2
  go_loopg [0, 12] k (fun kq v00 v12 w' => ∃ (x12 : Int), v12 = .int .i64 x12 ∧ Aside0 (x12.toNat + kq = more.length + 1) ∧ Aside0 (0 ≤ x12 ∧ x12 ≤ more.length) ∧ Aside0 (kq ≤ k) ∧ Aside0 (Kd.R k27 27 w' w0.heap.size (fun _ => True) v00 (onceL l (more.take x12.toNat)) ∧ (v00.ownBlock = v0.ownBlock ∨ ∃ b, v00.ownBlock = some b ∧ w.heap.size ≤ b)) ∧ Aside0 (Keeps w w' v0.ownBlock ∧ Below w0.heap.size w0 w'))
  case atStart => exact ⟨0, rfl, ⟨by simp [hk]⟩, ⟨by omega⟩, ⟨Nat.le_refl _⟩, ⟨HL.out, .inl rfl⟩, ⟨Keeps.refl _ _, HB.out⟩⟩
  case round =>
    obtain ⟨x12, rfl, HA, HX, HK, HO, HW⟩ := hrel
    cases gk with
    | zero => exact absurd HA.out (by have := HX.out; omega)
    | succ k1 =>
      clear hk
      by_cases c2 : x12 < (more.length : Int)
      · have c2b0 : decide (x12 < (more.length : Int)) = true := decide_eq_true c2
        have p170 : 0 ≤ (x12 : Int) := HX.out.1
        have q170 : x12 < (more.length : Int) := c2
        have T := Aside0.mk (take_nextD (d := z27) (by have := HS.out; omega) p170 q170)
        have W1 : Aside0 ((wrap64 (x12 + 1)).toNat + k1 = more.length + 1 ∧ 0 ≤ wrap64 (x12 + 1) ∧ wrap64 (x12 + 1) ≤ more.length) := ⟨by have := HS.out; have := HA.out; unfold wrap64; omega⟩
        obtain ⟨ad170, e170, hx0, hx1, hx2, hx3, hx4⟩ := at_T27 HM.out x12 p170 q170
        have hrow : some ad170.block ≠ v0.ownBlock := HP.out _ e170
        cases e170
        rename World => wo
        have hba : (ad170.add (x12.toNat * 5)).block = ad170.block := add_block _ _
        replace hx0 := HW.out.1.cell hx0 (by rw [hba]; exact hrow)
        replace hx1 := HW.out.1.cell hx1 (by show some (ad170.add (x12.toNat * 5)).block ≠ _; rw [hba]; exact hrow)
        replace hx2 := HW.out.1.cell hx2 (by show some (ad170.add (x12.toNat * 5)).block ≠ _; rw [hba]; exact hrow)
        replace hx3 := HW.out.1.cell hx3 (by show some (ad170.add (x12.toNat * 5)).block ≠ _; rw [hba]; exact hrow)
        replace hx4 := HW.out.1.cell hx4 (by show some (ad170.add (x12.toNat * 5)).block ≠ _; rw [hba]; exact hrow)
        clear hrow hba
        replace p170 := eq_true p170
        replace q170 := eq_true q170
        clear c2
        have HLen : Aside0 ((onceL l (more.take x12.toNat)).length ≤ 2147483646) := ⟨by
          have h1 := onceL_len l (more.take x12.toNat)
          have h2 := HS.out
          have h3 := HX.out
          rw [List.length_take] at h1
          have := of_eq_true q170
          omega⟩
        have HN : Aside0 (onceL l (more.take (wrap64 (x12 + 1)).toNat) = once1 (onceL l (more.take x12.toNat)) (rd_T27 more x12)) := ⟨by
          rw [← T.out]
          unfold onceL rd_T27
          rw [List.foldl_append]
          rfl⟩
        clear T
        generalize rd_T27 more x12 = vx at *
        obtain ⟨ll, hll⟩ : ∃ ll, onceL l (more.take x12.toNat) = ll := ⟨_, rfl⟩
        rw [hll] at HO HLen HN
        obtain ⟨A0, c0, rfl, hc0, hC0⟩ := Kd.R_reads HO.out.1
        have HC := Aside0.mk hC0
        clear hC0 hc0
        go_wp2
        have hBB := below_new wo (.cells #[.int .u64 vx.f0, .int .u64 vx.f1, .int .u64 vx.f2, .string vx.f3, .string vx.f4] 27)
        have hVV := heap_alloc_new wo (.cells #[.int .u64 vx.f0, .int .u64 vx.f1, .int .u64 vx.f2, .string vx.f3, .string vx.f4] 27)
        generalize hwb : wo.alloc (.cells #[.int .u64 vx.f0, .int .u64 vx.f1, .int .u64 vx.f2, .string vx.f3, .string vx.f4] 27) = wb at *
        have HBB := Aside0.mk hBB
        have HVV := Aside0.mk hVV
        clear hBB hVV hx0 hx1 hx2 hx3 hx4 hwb
        obtain ⟨kk, hkk⟩ : ∃ kk, kk = ll.length + 1 := ⟨_, rfl⟩
        go_loopg [7, 18] kk (fun kq v7 v18 w' => ∃ (x18 : Int) (q : Bool), v7 = .bool q ∧ v18 = .int .i64 x18 ∧ Aside0 (q = (ll.take x18.toNat).any (eqb vx)) ∧ Aside0 (x18.toNat + kq = ll.length + 1) ∧ Aside0 (0 ≤ x18 ∧ x18 ≤ ll.length) ∧ Aside0 (kq ≤ kk) ∧ Aside0 (Below wb.heap.size wb w'))
        case atStart => exact ⟨0, false, rfl, rfl, ⟨by simp⟩, ⟨by simp [hkk]⟩, ⟨by omega⟩, ⟨Nat.le_refl _⟩, ⟨Below.refl _ _⟩⟩
        case round =>
          obtain ⟨x18, q, rfl, rfl, HQ, HA1, HX1, HK1, HB1⟩ := hrel
          cases gk with
          | zero => exact absurd HA1.out (by have := HX1.out; omega)
          | succ k2 =>
            clear hkk
            rename World => wi
            have hv : wi.heap[wo.heap.size]? = some (.cells #[.int .u64 vx.f0, .int .u64 vx.f1, .int .u64 vx.f2, .string vx.f3, .string vx.f4] 27 (0, 0)) := (HB1.out.block _ (blk_lt HVV.out)).trans HVV.out
            have y0 : wi.cell? ⟨wo.heap.size, 0, none⟩ = some (.int .u64 vx.f0) := (blk_cell hv 0).trans rfl
            have y1 : wi.cell? ⟨wo.heap.size, 1, none⟩ = some (.int .u64 vx.f1) := (blk_cell hv 1).trans rfl
            have y2 : wi.cell? ⟨wo.heap.size, 2, none⟩ = some (.int .u64 vx.f2) := (blk_cell hv 2).trans rfl
            have y3 : wi.cell? ⟨wo.heap.size, 3, none⟩ = some (.string vx.f3) := (blk_cell hv 3).trans rfl
            have y4 : wi.cell? ⟨wo.heap.size, 4, none⟩ = some (.string vx.f4) := (blk_cell hv 4).trans rfl
            clear hv
            have HBi : Aside0 (Below wo.heap.size wo wi) := Aside0.mk (chain HBB.out HB1.out)
            by_cases d2 : x18 < (ll.length : Int)
            · have d2b0 : decide (x18 < (ll.length : Int)) = true := decide_eq_true d2
              have p180 : 0 ≤ (x18 : Int) := HX1.out.1
              have q180 : x18 < (ll.length : Int) := d2
              have T1 := Aside0.mk (take_nextD (d := z27) (by have := HLen.out; omega) p180 q180)
              have W2 : Aside0 ((wrap64 (x18 + 1)).toNat + k2 = ll.length + 1 ∧ 0 ≤ wrap64 (x18 + 1) ∧ wrap64 (x18 + 1) ≤ ll.length) := ⟨by have := HLen.out; have := HA1.out; unfold wrap64; omega⟩
              obtain ⟨ad180, e180, hz0, hz1, hz2, hz3, hz4⟩ := at_T27 HC.out x18 p180 q180
              cases e180
              replace hz0 := HBi.out.cell (World.block_lt_of_cell? wo _ hz0) |>.trans hz0
              replace hz1 := HBi.out.cell (World.block_lt_of_cell? wo _ hz1) |>.trans hz1
              replace hz2 := HBi.out.cell (World.block_lt_of_cell? wo _ hz2) |>.trans hz2
              replace hz3 := HBi.out.cell (World.block_lt_of_cell? wo _ hz3) |>.trans hz3
              replace hz4 := HBi.out.cell (World.block_lt_of_cell? wo _ hz4) |>.trans hz4
              replace p180 := eq_true p180
              replace q180 := eq_true q180
              have HQ2 : Aside0 ((q || eqb vx (rd_T27 ll x18)) = (ll.take (wrap64 (x18 + 1)).toNat).any (eqb vx)) := ⟨by
                rw [← T1.out, List.any_append, HQ.out]
                simp [rd_T27]⟩
              clear d2 T1
              generalize rd_T27 ll x18 = vy at *
              cases q with
              | true =>
                go_wp2
                go_roundg k2
                case measure => have := HK1.out; omega
                case rel => exact ⟨wrap64 (x18 + 1), true, rfl, rfl, ⟨by rw [← HQ2.out]; rfl⟩, ⟨W2.out.1⟩, ⟨W2.out.2⟩, ⟨by have := HK1.out; omega⟩, ⟨chain HB1.out (below_new _ _)⟩⟩
              | false =>
                have hn := below_new wi (.cells #[.int .u64 vy.f0, .int .u64 vy.f1, .int .u64 vy.f2, .string vy.f3, .string vy.f4] 27)
                have z0 := (hn.cell (World.block_lt_of_cell? wi _ y0)).trans y0
                have z1 := (hn.cell (World.block_lt_of_cell? wi _ y1)).trans y1
                have z2 := (hn.cell (World.block_lt_of_cell? wi _ y2)).trans y2
                have z3 := (hn.cell (World.block_lt_of_cell? wi _ y3)).trans y3
                have z4 := (hn.cell (World.block_lt_of_cell? wi _ y4)).trans y4
                clear hn
                go_wp2
                go_roundg k2
                case measure => have := HK1.out; omega
                case rel => exact ⟨wrap64 (x18 + 1), _, rfl, rfl, ⟨by rw [← HQ2.out]; rfl⟩, ⟨W2.out.1⟩, ⟨W2.out.2⟩, ⟨by have := HK1.out; omega⟩, ⟨chain HB1.out (below_new _ _)⟩⟩
            · have d2b0 : decide (x18 < (ll.length : Int)) = false := decide_eq_false d2
              have ex : ll.take x18.toNat = ll := List.take_of_length_le (by have := HX1.out; omega)
              rw [ex] at HQ
              clear d2
              have HOi : Aside0 (Kd.R k27 27 wi w0.heap.size (fun _ => True) (.slice A0 ll.length c0) ll) := ⟨Kd.R_below HO.out.1 HBi.out⟩
              cases q with
              | true =>
                have HN2 : Aside0 (onceL l (more.take (wrap64 (x12 + 1)).toNat) = ll) := ⟨by rw [HN.out]; unfold once1; rw [if_pos HQ.out.symm]⟩
                go_wp2
                go_roundg k1
                case measure => have := HK.out; omega
                case rel => exact ⟨wrap64 (x12 + 1), rfl, ⟨W1.out.1⟩, ⟨W1.out.2⟩, ⟨by have := HK.out; omega⟩, ⟨by rw [HN2.out]; exact HOi.out, HO.out.2⟩, ⟨HW.out.1.then_below HBi.out, below_step HW.out.2 HBi.out⟩⟩
              | false =>
                have HN2 : Aside0 (onceL l (more.take (wrap64 (x12 + 1)).toNat) = ll ++ [vx]) := ⟨by rw [HN.out]; unfold once1; rw [if_neg (by rw [← HQ.out]; decide)]⟩
                go_wp2_with ((with_reducible refine gate_builtin (b := .append) (xs := #[.tmp 31, .tmp 33]) rfl ?_); at_builtin; refine Kd.R_append k27 (w0 := w0) w0.heap.size rfl (.tmp 31) (.tmp 33) 43 27 (.agg #[.int .u64 0, .int .u64 0, .int .u64 0, .string ⟨#[]⟩, .string ⟨#[]⟩]) 56 rfl Tryd.underlying43 info27 rfl (by decide) (by omega) (.slice A0 ll.length c0) ll vx [.int .u64 vx.f0, .int .u64 vx.f1, .int .u64 vx.f2, .string vx.f3, .string vx.f4] (fun _ => True) (fun _ => False) rfl ?aX ?aP (fun _ hk => hk.elim) (fun _ _ => trivial) ?aO ?aB ?aS ?aL ?_; (case aX => first | rfl | (show Value.slice _ 1 1 = _; simp)); (case aP => exact k27_mkM _ _ _ vx); (case aO => exact HOi.out); (case aB => exact below_step HW.out.2 HBi.out); (case aS => exact (below_step HW.out.2 HBi.out).size); (case aL => have := HLen.out; omega); intro v1 w11 ho hb hg hat; rw [← HN2.out] at ho; have HO2 := Aside0.mk ho; have HB2 := Aside0.mk hb; have HG2 := Aside0.mk (Keeps.of_grown hg); have HT2 := Aside0.mk hat; clear ho hb hg hat)
                go_roundg k1
                case measure => have := HK.out; omega
                case rel =>
                  have hK := HW.out.1.then_below HBi.out
                  exact ⟨wrap64 (x12 + 1), rfl, ⟨W1.out.1⟩, ⟨W1.out.2⟩, ⟨by have := HK.out; omega⟩, ⟨HO2.out, by
                    rcases HT2.out with h | ⟨b, h, hb⟩
                    · rw [h]; exact HO.out.2
                    · exact .inr ⟨b, h, Nat.le_trans hK.1 hb⟩⟩, ⟨hK.trans HG2.out (HO.out.2), HB2.out⟩⟩
      · have c2b0 : decide (x12 < (more.length : Int)) = false := decide_eq_false c2
        have ex : more.take x12.toNat = more := List.take_of_length_le (by have := HX.out; omega)
        rw [ex] at HO
        clear c2
        go_wp2
        go_ret
        exact ⟨⟨_, rfl, HO.out.1, HO.out.2⟩, HW.out.1, HW.out.2⟩
end Go.Proofs.YtgenbmhmcnaiiaaDoor.H

/- One round of spec.Points: what is told while its region runs in any order. -/
namespace Go.Proofs.YtgenbmhmcnaiiaaDoor.H
open Go.RowKit Go.Proofs.YtgenbmhmcnaiiaaDoor.PG Go.Proofs.YtgenbmhmcnaiiaaDoorW.PrintWords Go.Proofs.YtgenbmhmcnaiiaaDoorW.PrintLast Go.Proofs.YtgenbmhmcnaiiaaDoorW.PrintMore
set_option linter.unusedVariables false
set_option linter.unusedSimpArgs false

/-- A row of one version that has just been made. -/
theorem R_one27 (w : World) (x : S27) : Kd.R k27 27 (w.alloc (.cells #[.int .u64 x.f0, .int .u64 x.f1, .int .u64 x.f2, .string x.f3, .string x.f4] 27)) w.heap.size (fun _ => True) (.slice (some ⟨w.heap.size, 0, none⟩) 1 1) [x] := by
  refine ⟨fun _ _ => trivial, [.int .u64 x.f0, .int .u64 x.f1, .int .u64 x.f2, .string x.f3, .string x.f4], ?_, ?_⟩
  · have h2 := World.ownsRow_lit (base := w.heap.size) (e := 27) (size := 5) w #[.int .u64 x.f0, .int .u64 x.f1, .int .u64 x.f2, .string x.f3, .string x.f4] 1 (Nat.le_refl _) (by decide) (by simp)
    show World.ownsRow _ _ 27 5 _ _ _
    simpa using h2
  · exact Reps.c5 (k27_mkM _ _ _ x) (Reps.none _ _)
theorem C_one27 (w : World) (x : S27) : Kd.C k27 (w.alloc (.cells #[.int .u64 x.f0, .int .u64 x.f1, .int .u64 x.f2, .string x.f3, .string x.f4] 27)) (some ⟨w.heap.size, 0, none⟩) 1 [x] := by
  obtain ⟨A, c, e, _, h⟩ := Kd.R_reads (R_one27 w x)
  cases e
  exact h
theorem R_own_lt {w : World} {base : Nat} {v : Value} {xs : List S27} (h : Kd.R k27 27 w base (fun _ => True) v xs) {k : Nat} (hk : v.ownBlock = some k) : base ≤ k ∧ k < w.heap.size := by
  obtain ⟨inner, ho⟩ := Kd.R_own h
  exact ⟨own_base ho k hk, own_lt ho k hk⟩

def RH (w W0 : World) (u : Value) (wx : World) (v : Value) (xs : List S27) : Prop := Kd.R k27 27 wx w.heap.size (fun _ => True) v xs ∧ (v.ownBlock = u.ownBlock ∨ ∃ b, v.ownBlock = some b ∧ W0.heap.size ≤ b)
structure PtInv (w W0 : World) (u : Value) (cl bl : List S27) (vx : S27) (L : Nat → Bool) (x : Act) (wx : World) : Prop where
  size : 50 ≤ x.tmps.size
  keep : Keeps W0 wx u.ownBlock
  low : Below w.heap.size w wx
  r0 : L 3 = false → Kd.R k27 27 wx w.heap.size (fun _ => True) u cl
  one : L 2 = true → L 3 = false → ∃ g, x.eval (.tmp 41) = .slice (some ⟨g, 0, none⟩) 1 1 ∧ W0.heap.size ≤ g ∧ Kd.C k27 wx (some ⟨g, 0, none⟩) 1 [vx]
  r1 : L 3 = true → L 6 = false → RH w W0 u wx (x.eval (.tmp 42)) (once1 cl vx)
  bs : L 5 = true → L 6 = false → ∃ A c, x.eval (.tmp 44) = .slice A bl.length c ∧ Kd.C k27 wx A bl.length bl ∧ ∀ ad, A = some ad → some ad.block ≠ (x.eval (.tmp 42)).ownBlock
  r2 : L 6 = true → RH w W0 u wx (x.eval (.tmp 45)) (onceL (once1 cl vx) bl)
  r3 : L 7 = true → x.eval (.tmp 3) = x.eval (.tmp 45)
section
variable {w W0 wx : World} {u : Value} {cl bl : List S27} {vx : S27} {L : Nat → Bool} {x : Act}
theorem PtInv.init {x : Act} (hs : 50 ≤ x.tmps.size) (hB : Below w.heap.size w W0) (hR : Kd.R k27 27 W0 w.heap.size (fun _ => True) u cl) : PtInv w W0 u cl bl vx (fun _ => false) x W0 :=
  ⟨hs, Keeps.refl _ _, hB, fun _ => hR, fun h => by simp at h, fun h => by simp at h, fun h => by simp at h, fun h => by simp at h, fun h => by simp at h⟩
/-- An operation that changes no world and none of the slots that are told of. -/
theorem PtInv.put (h : PtInv w W0 u cl bl vx L x wx) {i d : Nat} {v : Value} (hi : i = 0 ∨ i = 1 ∨ i = 4) (hd : d = 39 ∨ d = 40 ∨ d = 43) : PtInv w W0 u cl bl vx (done1 L i) (x.put (some d) v) wx := by
  have e3 : (x.put (some d) v).eval (.tmp 3) = x.eval (.tmp 3) := eval_put_other (by rcases hd with rfl | rfl | rfl <;> decide)
  have e1 : (x.put (some d) v).eval (.tmp 41) = x.eval (.tmp 41) := eval_put_other (by rcases hd with rfl | rfl | rfl <;> decide)
  have e2 : (x.put (some d) v).eval (.tmp 42) = x.eval (.tmp 42) := eval_put_other (by rcases hd with rfl | rfl | rfl <;> decide)
  have e4 : (x.put (some d) v).eval (.tmp 44) = x.eval (.tmp 44) := eval_put_other (by rcases hd with rfl | rfl | rfl <;> decide)
  have e5 : (x.put (some d) v).eval (.tmp 45) = x.eval (.tmp 45) := eval_put_other (by rcases hd with rfl | rfl | rfl <;> decide)
  have f : ∀ k, k ≠ i → done1 L i k = L k := fun k hk => done1_ne hk
  refine ⟨by rw [put_size]; exact h.size, h.keep, h.low, ?_, ?_, ?_, ?_, ?_, ?_⟩
  · rw [f 3 (by omega)]; exact h.r0
  · rw [f 2 (by omega), f 3 (by omega), e1]; exact h.one
  · rw [f 3 (by omega), f 6 (by omega), e2]; exact h.r1
  · rw [f 5 (by omega), f 6 (by omega), e4, e2]; exact h.bs
  · rw [f 6 (by omega), e5]; exact h.r2
  · rw [f 7 (by omega), e3, e5]; exact h.r3
theorem PtInv.lit (h : PtInv w W0 u cl bl vx L x wx) (h3 : L 3 = false) (h5 : L 5 = false) (h6 : L 6 = false) (h7 : L 7 = false) :
    PtInv w W0 u cl bl vx (done1 L 2) (x.put (some 41) (.slice (some ⟨wx.heap.size, 0, none⟩) 1 1)) (wx.alloc (.cells #[.int .u64 vx.f0, .int .u64 vx.f1, .int .u64 vx.f2, .string vx.f3, .string vx.f4] 27)) := by
  have e1 : (x.put (some 41) (.slice (some ⟨wx.heap.size, 0, none⟩) 1 1)).eval (.tmp 41) = .slice (some ⟨wx.heap.size, 0, none⟩) 1 1 := eval_put_same (Nat.lt_of_lt_of_le (by decide) h.size)
  refine ⟨by rw [put_size]; exact h.size, h.keep.then_below (below_new _ _), chain h.low (below_new _ _), ?_, ?_, ?_, ?_, ?_, ?_⟩
  · rw [done1_ne (by decide)]; exact fun k => Kd.R_below (h.r0 k) (below_new _ _)
  · rw [e1]; exact fun _ _ => ⟨_, rfl, h.keep.1, C_one27 _ _⟩
  · rw [done1_ne (by decide), h3]; exact fun k => by cases k
  · rw [done1_ne (by decide), h5]; exact fun k => by cases k
  · rw [done1_ne (by decide), h6]; exact fun k => by cases k
  · rw [done1_ne (by decide), h7]; exact fun k => by cases k
theorem PtInv.first (h : PtInv w W0 u cl bl vx L x wx) (h3 : L 3 = false) (h5 : L 5 = false) (h6 : L 6 = false) (h7 : L 7 = false) {v : Value} {w' : World} (hR : Kd.R k27 27 w' w.heap.size (fun _ => True) v (once1 cl vx))
    (ht : v.ownBlock = u.ownBlock ∨ ∃ b, v.ownBlock = some b ∧ wx.heap.size ≤ b) (hk : Keeps wx w' u.ownBlock) (hB : Below w.heap.size w w') : PtInv w W0 u cl bl vx (done1 L 3) (x.put (some 42) v) w' := by
  have e2 : (x.put (some 42) v).eval (.tmp 42) = v := eval_put_same (Nat.lt_of_lt_of_le (by decide) h.size)
  refine ⟨by rw [put_size]; exact h.size, h.keep.trans hk (.inl rfl), hB, ?_, ?_, ?_, ?_, ?_, ?_⟩
  · rw [done1_eq]; exact fun k => by cases k
  · rw [done1_eq]; exact fun _ k => by cases k
  · rw [e2]
    refine fun _ _ => ⟨hR, ?_⟩
    rcases ht with ht | ⟨b, ht, hb⟩
    · exact .inl ht
    · exact .inr ⟨b, ht, Nat.le_trans h.keep.1 hb⟩
  · rw [done1_ne (by decide), h5]; exact fun k => by cases k
  · rw [done1_ne (by decide), h6]; exact fun k => by cases k
  · rw [done1_ne (by decide), h7]; exact fun k => by cases k
theorem PtInv.blocks (h : PtInv w W0 u cl bl vx L x wx) (h3 : L 3 = true) (h6 : L 6 = false) (h7 : L 7 = false) {v : Value} {w' : World} (hR : Kd.R k27 27 w' wx.heap.size (fun _ => True) v bl) (hB : Below wx.heap.size wx w') :
    PtInv w W0 u cl bl vx (done1 L 5) (x.put (some 44) v) w' := by
  have e2 : (x.put (some 44) v).eval (.tmp 42) = x.eval (.tmp 42) := eval_put_other (by decide)
  have e4 : (x.put (some 44) v).eval (.tmp 44) = v := eval_put_same (Nat.lt_of_lt_of_le (by decide) h.size)
  have k1 := h.r1 h3 h6
  refine ⟨by rw [put_size]; exact h.size, h.keep.then_below hB, chain h.low hB, ?_, ?_, ?_, ?_, ?_, ?_⟩
  · rw [done1_ne (by decide), h3]; exact fun k => by cases k
  · rw [done1_ne (by decide), done1_ne (by decide), h3]; exact fun _ k => by cases k
  · rw [e2]
    exact fun _ _ => ⟨Kd.R_below k1.1 hB, k1.2⟩
  · rw [e4, e2]
    intro _ _
    obtain ⟨A, c, rfl, _, hC⟩ := Kd.R_reads hR
    refine ⟨A, c, rfl, hC, fun ad e he => ?_⟩
    have l1 := (R_own_lt k1.1 he.symm).2
    subst e
    have l2 := (R_own_lt hR (k := ad.block) rfl).1
    omega
  · rw [done1_ne (by decide), h6]; exact fun k => by cases k
  · rw [done1_ne (by decide), h7]; exact fun k => by cases k
theorem PtInv.second (h : PtInv w W0 u cl bl vx L x wx) (h3 : L 3 = true) (h6 : L 6 = false) (h7 : L 7 = false) {v : Value} {w' : World} (hR : Kd.R k27 27 w' w.heap.size (fun _ => True) v (onceL (once1 cl vx) bl))
    (ht : v.ownBlock = (x.eval (.tmp 42)).ownBlock ∨ ∃ b, v.ownBlock = some b ∧ wx.heap.size ≤ b) (hk : Keeps wx w' (x.eval (.tmp 42)).ownBlock) (hB : Below w.heap.size w w') : PtInv w W0 u cl bl vx (done1 L 6) (x.put (some 45) v) w' := by
  have e5 : (x.put (some 45) v).eval (.tmp 45) = v := eval_put_same (Nat.lt_of_lt_of_le (by decide) h.size)
  have k1 := h.r1 h3 h6
  refine ⟨by rw [put_size]; exact h.size, h.keep.trans hk k1.2, hB, ?_, ?_, ?_, ?_, ?_, ?_⟩
  · rw [done1_ne (by decide), h3]; exact fun k => by cases k
  · rw [done1_ne (by decide), done1_ne (by decide), h3]; exact fun _ k => by cases k
  · rw [done1_eq]; exact fun _ k => by cases k
  · rw [done1_eq]; exact fun _ k => by cases k
  · rw [e5]
    refine fun _ => ⟨hR, ?_⟩
    rcases ht with ht | ⟨b, ht, hb⟩
    · rw [ht]; exact k1.2
    · exact .inr ⟨b, ht, Nat.le_trans h.keep.1 hb⟩
  · rw [done1_ne (by decide), h7]; exact fun k => by cases k
theorem PtInv.fin (h : PtInv w W0 u cl bl vx L x wx) (h3 : L 3 = true) (h6 : L 6 = true) : PtInv w W0 u cl bl vx (done1 L 7) (x.put (some 3) (x.eval (.tmp 45))) wx := by
  have e3 : (x.put (some 3) (x.eval (.tmp 45))).eval (.tmp 3) = x.eval (.tmp 45) := eval_put_same (Nat.lt_of_lt_of_le (by decide) h.size)
  have e5 : (x.put (some 3) (x.eval (.tmp 45))).eval (.tmp 45) = x.eval (.tmp 45) := eval_put_other (by decide)
  refine ⟨by rw [put_size]; exact h.size, h.keep, h.low, ?_, ?_, ?_, ?_, ?_, ?_⟩
  · rw [done1_ne (by decide), h3]; exact fun k => by cases k
  · rw [done1_ne (by decide), done1_ne (by decide), h3]; exact fun _ k => by cases k
  · rw [done1_ne (by decide), done1_ne (by decide), h6]; exact fun _ k => by cases k
  · rw [done1_ne (by decide), done1_ne (by decide), h6]; exact fun _ k => by cases k
  · rw [e5]; exact fun _ => h.r2 h6
  · rw [e3, e5]; exact fun _ => rfl
end
end Go.Proofs.YtgenbmhmcnaiiaaDoor.H

/- spec.Points: the releases at which what lists of terms say of releases may change. -/
namespace Go.Proofs.YtgenbmhmcnaiiaaDoor.H
open Go.RowKit Go.Proofs.YtgenbmhmcnaiiaaDoor.PG Go.Proofs.YtgenbmhmcnaiiaaDoorW.PrintWords Go.Proofs.YtgenbmhmcnaiiaaDoorW.PrintLast Go.Proofs.YtgenbmhmcnaiiaaDoorW.PrintMore
set_option linter.unusedVariables false
set_option linter.unusedSimpArgs false

def lowV (t : S54) : S27 := ⟨t.f2, t.f3, t.f4, ⟨#[]⟩, ⟨#[]⟩⟩
def pts2 (l : List S27) (v : S27) : List S27 := onceL (once1 l v) (blocksTo 4 v.f0 v.f1 v.f2)
def pts1 (l : List S27) (t : S54) : List S27 := (blocksTo 4 t.f2 t.f3 t.f4).foldl pts2 (once1 l (lowV t))
def ptsT (l : List S27) (ts : List S54) : List S27 := ts.foldl pts1 l
def pointsL (c : List (List S54)) : List S27 := c.foldl ptsT [z27]
theorem pts2_len (l : List S27) (v : S27) : (pts2 l v).length ≤ l.length + 4 := by
  have h1 := once1_len l v
  have h2 := onceL_len (once1 l v) (blocksTo 4 v.f0 v.f1 v.f2)
  have h3 := blocksTo_len 4 v.f0 v.f1 v.f2
  unfold pts2
  omega
theorem fold_len {α : Type} (g : List S27 → α → List S27) (n : Nat) (hg : ∀ l v, (g l v).length ≤ l.length + n) : ∀ (xs : List α) (l : List S27), (xs.foldl g l).length ≤ l.length + n * xs.length
  | [], l => by simp
  | x :: xs, l => by
    have h1 := fold_len g n hg xs (g l x)
    have h2 := hg l x
    rw [List.foldl_cons, List.length_cons, Nat.mul_add]
    omega
theorem pts1_len (l : List S27) (t : S54) : (pts1 l t).length ≤ l.length + 13 := by
  have h1 := once1_len l (lowV t)
  have h2 := fold_len pts2 4 pts2_len (blocksTo 4 t.f2 t.f3 t.f4) (once1 l (lowV t))
  have h3 := blocksTo_len 4 t.f2 t.f3 t.f4
  unfold pts1
  omega
theorem ptsT_len (l : List S27) (ts : List S54) : (ptsT l ts).length ≤ l.length + 13 * ts.length := fold_len pts1 13 pts1_len ts l
theorem outer_len : ∀ (c : List (List S54)) (l : List S27), (c.foldl ptsT l).length ≤ l.length + 13 * (c.map List.length).sum
  | [], l => by simp
  | x :: c, l => by
    have h1 := outer_len c (ptsT l x)
    have h2 := ptsT_len l x
    rw [List.foldl_cons, List.map_cons, List.sum_cons, Nat.mul_add]
    omega
theorem sum_take (c : List (List S54)) (n : Nat) : ((c.take n).map List.length).sum ≤ (c.map List.length).sum := by
  conv => rhs; rw [← List.take_append_drop n c, List.map_append, List.sum_append]
  omega
theorem sum_take_one (c : List (List S54)) (x : List S54) (n : Nat) (h : c.take n ++ [x] = c.take (n + 1)) : ((c.take n).map List.length).sum + x.length ≤ (c.map List.length).sum := by
  have := sum_take c (n + 1)
  rw [← h, List.map_append, List.sum_append] at this
  simpa using this
theorem R_z27 (w : World) : Kd.R k27 27 (w.alloc (.cells #[.int .u64 0, .int .u64 0, .int .u64 0, .string ⟨#[]⟩, .string ⟨#[]⟩] 27)) w.heap.size (fun _ => True) (.slice (some ⟨w.heap.size, 0, none⟩) 1 1) [z27] := R_one27 w z27

theorem C_low (w2 : World) (vx : S54) : Kd.C k27 ((w2.alloc (.cells #[.int .u64 vx.f2, .int .u64 vx.f3, .int .u64 vx.f4, .string ⟨#[]⟩, .string ⟨#[]⟩] 27)).alloc (.cells #[.int .u64 vx.f2, .int .u64 vx.f3, .int .u64 vx.f4, .string ⟨#[]⟩, .string ⟨#[]⟩] 27)) (some ⟨w2.heap.size + 1, 0, none⟩) 1 [lowV vx] := by
  have h := C_one27 (w2.alloc (.cells #[.int .u64 vx.f2, .int .u64 vx.f3, .int .u64 vx.f4, .string ⟨#[]⟩, .string ⟨#[]⟩] 27)) (lowV vx)
  have es : (w2.alloc (.cells #[.int .u64 vx.f2, .int .u64 vx.f3, .int .u64 vx.f4, .string ⟨#[]⟩, .string ⟨#[]⟩] 27)).heap.size = w2.heap.size + 1 := by simp
  rw [es] at h
  exact h
theorem V_low (w2 : World) (vx : S54) : ((w2.alloc (.cells #[.int .u64 vx.f2, .int .u64 vx.f3, .int .u64 vx.f4, .string ⟨#[]⟩, .string ⟨#[]⟩] 27)).alloc (.cells #[.int .u64 vx.f2, .int .u64 vx.f3, .int .u64 vx.f4, .string ⟨#[]⟩, .string ⟨#[]⟩] 27)).heap[w2.heap.size]? = some (.cells #[.int .u64 vx.f2, .int .u64 vx.f3, .int .u64 vx.f4, .string ⟨#[]⟩, .string ⟨#[]⟩] 27 (0, 0)) :=
  (Below.heap_alloc _ _ _ (blk_lt (heap_alloc_new w2 _))).trans (heap_alloc_new w2 _)

set_option maxRecDepth 100000 in
set_option maxHeartbeats 4000000 in
theorem points_calls (A0 : Option Addr) (c0 : Nat) (l0 : List (List S54)) (w : World) (hr0 : Kd.C (Kd.slice 54 k54) w A0 l0.length l0) (hc0 : l0.length ≤ c0) (hl : l0.length ≤ 2147483647) (hsum : (l0.map List.length).sum ≤ 100000) :
    Calls Tryd.prog 73 #[.slice A0 l0.length c0] w fun e w' => (∃ v, e = .returned v ∧ Kd.R k27 27 w' w.heap.size (fun _ => True) v (pointsL l0)) ∧ Below w.heap.size w w' := by
  have hu54 := Tryd.underlying54
  have hu27 := Tryd.underlying27
  have hu43 := Tryd.underlying43
  have HR0 := Aside0.mk hr0
  have HC0 := Aside0.mk hc0
  have HS := Aside0.mk hsum
  clear hr0 hc0 hsum
  obtain ⟨k, hk⟩ : ∃ k, k = l0.length + 1 := ⟨_, rfl⟩
  go_enter Tryd.func73, Tryd.ntmps73
  go_wp2
  go_loopg [3, 15] k (fun kq v3 v15 w' => ∃ (x15 : Int), v15 = .int .i64 x15 ∧ Aside0 (x15.toNat + kq = l0.length + 1) ∧ Aside0 (0 ≤ x15 ∧ x15 ≤ l0.length) ∧ Aside0 (kq ≤ k) ∧ Aside0 (Kd.R k27 27 w' w.heap.size (fun _ => True) v3 ((l0.take x15.toNat).foldl ptsT [z27])) ∧ Aside0 (Below w.heap.size w w'))
  case atStart => exact ⟨0, rfl, ⟨by simp [hk]⟩, ⟨by omega⟩, ⟨Nat.le_refl _⟩, ⟨R_z27 w⟩, ⟨below_new _ _⟩⟩
  case round =>
    obtain ⟨x15, rfl, HA, HX, HK, HO, HB⟩ := hrel
    cases gk with
    | zero => exact absurd HA.out (by have := HX.out; omega)
    | succ k1 =>
      have HL := Aside0.mk hl
      clear hl hk
      by_cases c2 : x15 < (l0.length : Int)
      · have c2b0 : decide (x15 < (l0.length : Int)) = true := decide_eq_true c2
        have p170 : 0 ≤ (x15 : Int) := HX.out.1
        have q170 : x15 < (l0.length : Int) := c2
        have T0 := take_nextD (d := ([] : List S54)) HL.out p170 q170
        have T : Aside0 (l0.take x15.toNat ++ [rd_L9 l0 x15] = l0.take (wrap64 (x15 + 1)).toNat) := Aside0.mk T0
        have e1 : (wrap64 (x15 + 1)).toNat = x15.toNat + 1 := by have := HL.out; unfold wrap64; omega
        have W1 : Aside0 ((wrap64 (x15 + 1)).toNat + k1 = l0.length + 1 ∧ 0 ≤ wrap64 (x15 + 1) ∧ wrap64 (x15 + 1) ≤ l0.length) := ⟨by have := HL.out; have := HA.out; unfold wrap64; omega⟩
        obtain ⟨ad170, A1, c1, e170, hx170, hc1, hr1⟩ := at_L9 HR0.out x15 p170 q170
        rw [e1] at T0
        have HT : Aside0 (((l0.take x15.toNat).foldl ptsT [z27]).length + 13 * (rd_L9 l0 x15).length ≤ 1300001) := ⟨by
          have h1 := outer_len (l0.take x15.toNat) [z27]
          have h2 := sum_take_one l0 _ _ T0
          have h3 := HS.out
          have h4 : (List.getD l0 x15.toNat []).length = (rd_L9 l0 x15).length := rfl
          simp only [List.length_cons, List.length_nil] at h1
          omega⟩
        have HNext : Aside0 (ptsT ((l0.take x15.toNat).foldl ptsT [z27]) (rd_L9 l0 x15) = (l0.take (wrap64 (x15 + 1)).toNat).foldl ptsT [z27]) := ⟨by rw [← T.out, List.foldl_append]; rfl⟩
        clear T T0 e1
        cases e170
        replace hx170 := (HB.out.cell (World.block_lt_of_cell? w _ hx170)).trans hx170
        have HR1 := Aside0.mk hr1
        clear hr1
        replace p170 := eq_true p170
        replace q170 := eq_true q170
        clear c2
        generalize rd_L9 l0 x15 = li at *
        obtain ⟨lc, hlc⟩ : ∃ lc, (l0.take x15.toNat).foldl ptsT [z27] = lc := ⟨_, rfl⟩
        rw [hlc] at HO HT HNext
        clear hlc
        rename World => wo
        go_wp2
        obtain ⟨kk, hkk⟩ : ∃ kk, kk = li.length + 1 := ⟨_, rfl⟩
        go_loopg [3, 21] kk (fun kq v3 v21 w' => ∃ (x21 : Int), v21 = .int .i64 x21 ∧ Aside0 (x21.toNat + kq = li.length + 1) ∧ Aside0 (0 ≤ x21 ∧ x21 ≤ li.length) ∧ Aside0 (kq ≤ kk) ∧ Aside0 (Kd.R k27 27 w' w.heap.size (fun _ => True) v3 ((li.take x21.toNat).foldl pts1 lc)) ∧ Aside0 (Below w.heap.size w w'))
        case atStart => exact ⟨0, rfl, ⟨by simp [hkk]⟩, ⟨by omega⟩, ⟨Nat.le_refl _⟩, HO, HB⟩
        case round =>
          obtain ⟨x21, rfl, HA1, HX1, HK1, HO1, HB1⟩ := hrel
          cases gk with
          | zero => exact absurd HA1.out (by have := HX1.out; omega)
          | succ k2 =>
            clear hkk
            have HLi : Aside0 (li.length ≤ 2147483647) := ⟨by have := HT.out; omega⟩
            by_cases d2 : x21 < (li.length : Int)
            · have d2b0 : decide (x21 < (li.length : Int)) = true := decide_eq_true d2
              have p180 : 0 ≤ (x21 : Int) := HX1.out.1
              have q180 : x21 < (li.length : Int) := d2
              have T1 := Aside0.mk (take_nextD (d := z54) HLi.out p180 q180)
              have W2 : Aside0 ((wrap64 (x21 + 1)).toNat + k2 = li.length + 1 ∧ 0 ≤ wrap64 (x21 + 1) ∧ wrap64 (x21 + 1) ≤ li.length) := ⟨by have := HLi.out; have := HA1.out; unfold wrap64; omega⟩
              obtain ⟨ad180, e180, hx180_0, hx180_1, hx180_2, hx180_3, hx180_4, hx180_5⟩ := at_T54 HR1.out x21 p180 q180
              cases e180
              rename World => wm
              replace hx180_0 := (HB1.out.cell (World.block_lt_of_cell? w _ hx180_0)).trans hx180_0
              replace hx180_1 := (HB1.out.cell (World.block_lt_of_cell? w _ hx180_1)).trans hx180_1
              replace hx180_2 := (HB1.out.cell (World.block_lt_of_cell? w _ hx180_2)).trans hx180_2
              replace hx180_3 := (HB1.out.cell (World.block_lt_of_cell? w _ hx180_3)).trans hx180_3
              replace hx180_4 := (HB1.out.cell (World.block_lt_of_cell? w _ hx180_4)).trans hx180_4
              replace hx180_5 := (HB1.out.cell (World.block_lt_of_cell? w _ hx180_5)).trans hx180_5
              have HT1 : Aside0 (((li.take x21.toNat).foldl pts1 lc).length ≤ 1300001) := ⟨by
                have h1 := fold_len pts1 13 pts1_len (li.take x21.toNat) lc
                have h2 := HT.out
                have h3 : (li.take x21.toNat).length ≤ li.length := by rw [List.length_take]; omega
                omega⟩
              have HNext1 : Aside0 (pts1 ((li.take x21.toNat).foldl pts1 lc) (rd_T54 li x21) = (li.take (wrap64 (x21 + 1)).toNat).foldl pts1 lc) := ⟨by rw [← T1.out, List.foldl_append]; rfl⟩
              replace p180 := eq_true p180
              replace q180 := eq_true q180
              clear d2 hx170 T1
              generalize rd_T54 li x21 = vx at *
              obtain ⟨lm, hlm⟩ : ∃ lm, (li.take x21.toNat).foldl pts1 lc = lm := ⟨_, rfl⟩
              rw [hlm] at HO1 HT1 HNext1
              clear hlm
              have HU : Aside0 (∀ k, u3.ownBlock = some k → w.heap.size ≤ k ∧ k < wm.heap.size) := ⟨fun k hk => R_own_lt HO1.out hk⟩
              go_wp2_with (first
                | (go_at_call 107; refine (spec_Least.calls _ _ _ _ _ _ _ _ _ _ _ _ rfl).mono ?_; rintro e w1 ⟨rfl, hb⟩; have B1 := Aside0.mk (chain (below_new _ _) hb); clear hb)
                | (go_at_call 41; refine (spec_Bare.calls _ _ _ _ _ _ _ _ _ _ _ rfl).mono ?_; rintro e w2 ⟨rfl, hb⟩; have B2 : Aside0 (Below wm.heap.size wm w2) := Aside0.mk (chain B1.out hb); have B9 : Aside0 (Below wm.heap.size wm ((w2.alloc (.cells #[.int .u64 vx.f2, .int .u64 vx.f3, .int .u64 vx.f4, .string ⟨#[]⟩, .string ⟨#[]⟩] 27)).alloc (.cells #[.int .u64 vx.f2, .int .u64 vx.f3, .int .u64 vx.f4, .string ⟨#[]⟩, .string ⟨#[]⟩] 27))) := Aside0.mk (chain (chain B2.out (below_new _ _)) (below_new _ _)); have C9 := Aside0.mk (C_low w2 vx); have V9 := Aside0.mk (V_low w2 vx); have Z9 := Aside0.mk B2.out.size; have D9 := Aside0.mk (below_step HB1.out B9.out); have R9 := Aside0.mk (Kd.R_below HO1.out B9.out); clear hb)
                | (go_at_call 115; refine (once_calls w _ u3 lm (some ⟨w2.heap.size + 1, 0, none⟩) 1 [lowV vx] D9.out R9.out C9.out ?hsep ?hs).mono ?_; (case hsep => intro ad e h; cases e; have h1 := (HU.out _ h.symm).2; have h2 := Z9.out; exact absurd h1 (by show ¬ w2.heap.size + 1 < _; omega)); (case hs => have := HT1.out; simp only [List.length_cons, List.length_nil]; omega); rintro e w3 ⟨⟨u31, rfl, hR, hT⟩, hK, hb⟩; have B3 := Aside0.mk hb; have R3 : Aside0 (Kd.R k27 27 w3 w.heap.size (fun _ => True) u31 (once1 lm (lowV vx))) := Aside0.mk hR; have ne9 : some w2.heap.size ≠ u3.ownBlock := (fun h => by have h1 := (HU.out _ h.symm).2; have h2 := Z9.out; omega); have V3 : w3.heap[w2.heap.size]? = some (.cells #[.int .u64 vx.f2, .int .u64 vx.f3, .int .u64 vx.f4, .string ⟨#[]⟩, .string ⟨#[]⟩] 27) := (hK.2 _ (blk_lt V9.out) ne9).trans V9.out; have y0 : w3.cell? ⟨w2.heap.size, 0, none⟩ = some (.int .u64 vx.f2) := (blk_cell V3 0).trans rfl; have y1 : w3.cell? ⟨w2.heap.size, 1, none⟩ = some (.int .u64 vx.f3) := (blk_cell V3 1).trans rfl; have y2 : w3.cell? ⟨w2.heap.size, 2, none⟩ = some (.int .u64 vx.f4) := (blk_cell V3 2).trans rfl; have y3 : w3.cell? ⟨w2.heap.size, 3, none⟩ = some (.string ⟨#[]⟩) := (blk_cell V3 3).trans rfl; have y4 : w3.cell? ⟨w2.heap.size, 4, none⟩ = some (.string ⟨#[]⟩) := (blk_cell V3 4).trans rfl; clear hR hT hb hK ne9 V3)
                | (go_at_call 116; refine (blocks_calls _ _ _ _ _ _).mono ?_; rintro e w4 ⟨⟨vb, rfl, hRb⟩, hb⟩; have B4 := Aside0.mk hb; have RB := Aside0.mk hRb; obtain ⟨Ab, cb, rfl, _, hCb⟩ := Kd.R_reads hRb; have CB := Aside0.mk hCb; clear hRb hb hCb))
              clear y0 y1 y2 y3 y4 V9 Z9 D9 R9 C9 B9 B1 B2 HU hx180_0 hx180_1 hx180_2 hx180_3 hx180_4 hx180_5
              have HBl := Aside0.mk (blocksTo_len 4 vx.f2 vx.f3 vx.f4)
              have HPt : Aside0 ((blocksTo 4 vx.f2 vx.f3 vx.f4).foldl pts2 (once1 lm (lowV vx)) = pts1 lm vx) := ⟨rfl⟩
              have HL1 := Aside0.mk (once1_len lm (lowV vx))
              generalize blocksTo 4 vx.f2 vx.f3 vx.f4 = bl at *
              generalize once1 lm (lowV vx) = l1 at *
              have HNe : Aside0 (∀ ad, Ab = some ad → some ad.block ≠ u31.ownBlock) := ⟨fun ad e he => by
                have l1 := (R_own_lt R3.out he.symm).2
                subst e
                have l2 := (R_own_lt RB.out (k := ad.block) rfl).1
                omega⟩
              obtain ⟨k3, hk3⟩ : ∃ k3, k3 = bl.length + 1 := ⟨_, rfl⟩
              go_loopg [3, 35] k3 (fun kq v3 v35 w' => ∃ (x35 : Int), v35 = .int .i64 x35 ∧ Aside0 (x35.toNat + kq = bl.length + 1) ∧ Aside0 (0 ≤ x35 ∧ x35 ≤ bl.length) ∧ Aside0 (kq ≤ k3) ∧ Aside0 (Kd.R k27 27 w' w.heap.size (fun _ => True) v3 ((bl.take x35.toNat).foldl pts2 l1) ∧ (v3.ownBlock = u31.ownBlock ∨ ∃ b, v3.ownBlock = some b ∧ w4.heap.size ≤ b)) ∧ Aside0 (Keeps w4 w' u31.ownBlock ∧ Below w.heap.size w w'))
              case atStart => exact ⟨0, rfl, ⟨by simp [hk3]⟩, ⟨by omega⟩, ⟨Nat.le_refl _⟩, ⟨Kd.R_below R3.out B4.out, .inl rfl⟩, ⟨Keeps.refl _ _, below_step B3.out B4.out⟩⟩
              case round =>
                obtain ⟨x35, rfl, HA2, HX2, HK2, HO2, HW2⟩ := hrel
                cases gk with
                | zero => exact absurd HA2.out (by have := HX2.out; omega)
                | succ k4 =>
                  clear hk3
                  by_cases f2 : x35 < (bl.length : Int)
                  · have f2b0 : decide (x35 < (bl.length : Int)) = true := decide_eq_true f2
                    have p190 : 0 ≤ (x35 : Int) := HX2.out.1
                    have q190 : x35 < (bl.length : Int) := f2
                    have T2 := Aside0.mk (take_nextD (d := z27) (by have := HBl.out; omega) p190 q190)
                    have W3 : Aside0 ((wrap64 (x35 + 1)).toNat + k4 = bl.length + 1 ∧ 0 ≤ wrap64 (x35 + 1) ∧ wrap64 (x35 + 1) ≤ bl.length) := ⟨by have := HBl.out; have := HA2.out; unfold wrap64; omega⟩
                    obtain ⟨ad190, e190, hz0, hz1, hz2, hz3, hz4⟩ := at_T27 CB.out x35 p190 q190
                    have hrow := HNe.out _ e190
                    cases e190
                    rename World => wi
                    have hba : (ad190.add (x35.toNat * 5)).block = ad190.block := add_block _ _
                    replace hz0 := HW2.out.1.cell hz0 (by rw [hba]; exact hrow)
                    replace hz1 := HW2.out.1.cell hz1 (by show some (ad190.add (x35.toNat * 5)).block ≠ _; rw [hba]; exact hrow)
                    replace hz2 := HW2.out.1.cell hz2 (by show some (ad190.add (x35.toNat * 5)).block ≠ _; rw [hba]; exact hrow)
                    replace hz3 := HW2.out.1.cell hz3 (by show some (ad190.add (x35.toNat * 5)).block ≠ _; rw [hba]; exact hrow)
                    replace hz4 := HW2.out.1.cell hz4 (by show some (ad190.add (x35.toNat * 5)).block ≠ _; rw [hba]; exact hrow)
                    clear hrow hba
                    have HT2 : Aside0 (((bl.take x35.toNat).foldl pts2 l1).length ≤ 1300100) := ⟨by
                      have h1 := fold_len pts2 4 pts2_len (bl.take x35.toNat) l1
                      have h2 := HT1.out
                      have h3 : (bl.take x35.toNat).length ≤ bl.length := by rw [List.length_take]; omega
                      have h4 := HBl.out
                      have h5 := HL1.out
                      omega⟩
                    have HNext2 : Aside0 (pts2 ((bl.take x35.toNat).foldl pts2 l1) (rd_T27 bl x35) = (bl.take (wrap64 (x35 + 1)).toNat).foldl pts2 l1) := ⟨by rw [← T2.out, List.foldl_append]; rfl⟩
                    replace p190 := eq_true p190
                    replace q190 := eq_true q190
                    clear f2 T2
                    generalize rd_T27 bl x35 = vy at *
                    obtain ⟨cl, hcl⟩ : ∃ cl, (bl.take x35.toNat).foldl pts2 l1 = cl := ⟨_, rfl⟩
                    rw [hcl] at HO2 HT2 HNext2
                    clear hcl
                    go_wp2_with fail
                    clear hz0 hz1 hz2 hz3 hz4
                    obtain ⟨W0, hW0⟩ : ∃ W0, (wi.alloc (.cells #[.int .u64 vy.f0, .int .u64 vy.f1, .int .u64 vy.f2, .string vy.f3, .string vy.f4] 27)).drew = W0 := ⟨_, rfl⟩
                    have hbW : Below wi.heap.size wi W0 := by rw [← hW0]; exact chain (below_new _ _) (drew_chain (Below.refl _ _))
                    have hbox : W0.heap[wi.heap.size]? = some (.cells #[.int .u64 vy.f0, .int .u64 vy.f1, .int .u64 vy.f2, .string vy.f3, .string vy.f4] 27 (0, 0)) := by rw [← hW0]; exact heap_alloc_new _ _
                    have hnb : some wi.heap.size ≠ u3.ownBlock := fun h => by have := (R_own_lt HO2.out.1 h.symm).2; omega
                    have hini : ∀ x : Act, 50 ≤ x.tmps.size → PtInv w W0 u3 cl (blocksTo 4 vy.f0 vy.f1 vy.f2) vy (fun _ => false) x W0 := fun x hx => PtInv.init hx (below_step HW2.out.2 hbW) (Kd.R_below HO2.out.1 hbW)
                    have hi2 : ∀ x : Act, 50 ≤ x.tmps.size → PtInv w W0 u3 cl (blocksTo 4 vy.f0 vy.f1 vy.f2) vy (fun _ => false) x (wi.alloc (.cells #[.int .u64 vy.f0, .int .u64 vy.f1, .int .u64 vy.f2, .string vy.f3, .string vy.f4] 27)).drew := by rw [hW0]; exact hini
                    clear hini
                    have hsm : Aside0 (∀ n : Nat, n ≤ 10 → cl.length + n ≤ 2147483647) := ⟨fun n hn => by have := HT2.out; omega⟩
                    have hsn : Aside0 ((once1 cl vy).length + (blocksTo 4 vy.f0 vy.f1 vy.f2).length ≤ 2147483647) := ⟨by have h1 := once1_len cl vy; have h2 := blocksTo_len 4 vy.f0 vy.f1 vy.f2; have h3 := HT2.out; omega⟩
                    have hown : Aside0 (∀ k, u3.ownBlock = some k → k < wi.heap.size) := ⟨fun k h => (R_own_lt HO2.out.1 h).2⟩
                    have hWs : Aside0 (wi.heap.size < W0.heap.size) := ⟨blk_lt hbox⟩
                    refine region_row2 (id := 13) mixed (by kernel_rfl) (fun i _ v => match i with
                        | 0 => v = u3
                        | 1 => v = .agg #[.int .u64 vy.f0, .int .u64 vy.f1, .int .u64 vy.f2, .string vy.f3, .string vy.f4]
                        | 2 => True
                        | 3 => True
                        | 4 => v = .agg #[.int .u64 vy.f0, .int .u64 vy.f1, .int .u64 vy.f2, .string vy.f3, .string vy.f4]
                        | 5 => True
                        | 6 => True
                        | 7 => True
                        | _ => True) (fun a b : World => a.heap.size ≤ b.heap.size) (fun L x wx => PtInv w W0 u3 cl (blocksTo 4 vy.f0 vy.f1 vy.f2) vy L x wx) (hi2 _ (by simp)) ?_ ?_ ?_
                    · exact fun h _ => h
                    · refine ⟨?_, ?_, ?_, ?_, ?_, ?_, ?_, ?_, trivial⟩
                      · intro x wx L hI hA hB hd hs
                        have e3 := ev_of (hs 3 (by kernel_rfl) : x.eval (.tmp 3) = u3)
                        clear hd hs
                        refine wpOp_plain rfl rfl ?_
                        go_simp
                        first | exact ⟨_, rfl, fun _ => rfl, Nat.le_refl _, hI.put (.inl rfl) (.inl rfl)⟩ | exact ⟨rfl, hI.put (.inl rfl) (.inl rfl)⟩ | exact hI.put (.inl rfl) (.inl rfl) | exact ⟨_, rfl, rfl, hI.put (.inl rfl) (.inl rfl)⟩ | exact ⟨_, rfl, rfl, Nat.le_refl _, hI.put (.inl rfl) (.inl rfl)⟩
                      · intro x wx L hI hA hB hd hs
                        have e10 := ev_of (hs 10 (by kernel_rfl) : x.eval (.tmp 10) = .pointer (some ⟨wi.heap.size, 0, none⟩))
                        have hbx := (hI.keep.2 _ hWs.out hnb).trans hbox
                        have z0 := (blk_cell hbx 0).trans rfl
                        have z1 := (blk_cell hbx 1).trans rfl
                        have z2 := (blk_cell hbx 2).trans rfl
                        have z3 := (blk_cell hbx 3).trans rfl
                        have z4 := (blk_cell hbx 4).trans rfl
                        clear hd hs
                        refine wpOp_plain rfl rfl ?_
                        go_simp
                        first | exact ⟨_, rfl, fun _ => rfl, Nat.le_refl _, hI.put (.inr (.inl rfl)) (.inr (.inl rfl))⟩ | exact ⟨rfl, hI.put (.inr (.inl rfl)) (.inr (.inl rfl))⟩ | exact hI.put (.inr (.inl rfl)) (.inr (.inl rfl)) | exact ⟨_, rfl, rfl, hI.put (.inr (.inl rfl)) (.inr (.inl rfl))⟩ | exact ⟨_, rfl, rfl, Nat.le_refl _, hI.put (.inr (.inl rfl)) (.inr (.inl rfl))⟩
                      · intro x wx L hI hA hB hd hs
                        have e40 := ev_of (hd 1 _ 40 rfl rfl (by kernel_rfl) : x.eval (.tmp 40) = .agg #[.int .u64 vy.f0, .int .u64 vy.f1, .int .u64 vy.f2, .string vy.f3, .string vy.f4])
                        have L3 := hB 3 (by kernel_rfl)
                        have L5 := hB 5 (by kernel_rfl)
                        have L6 := hB 6 (by kernel_rfl)
                        have L7 := hB 7 (by kernel_rfl)
                        clear hd hs
                        refine wpOp_plain rfl rfl ?_
                        go_simp
                        exact ⟨⟨_, rfl⟩, hI.lit L3 L5 L6 L7⟩
                      · intro x wx L hI hA hB hd hs
                        have L3 := hB 3 (by kernel_rfl)
                        have L5 := hB 5 (by kernel_rfl)
                        have L6 := hB 6 (by kernel_rfl)
                        have L7 := hB 7 (by kernel_rfl)
                        have e39 := ev_of (hd 0 _ 39 rfl rfl (by kernel_rfl) : x.eval (.tmp 39) = u3)
                        obtain ⟨g, hu41, hg, hC⟩ := hI.one (hA 2 (by kernel_rfl)) L3
                        have e41 := ev_of hu41
                        skip
                        refine wpOp_plain rfl rfl ?_
                        clear hd hs
                        go_simp
                        refine (once_calls w wx u3 cl (some ⟨g, 0, none⟩) 1 [vy] hI.low (hI.r0 L3) hC (fun ad e h => by cases e; have h1 : g < wi.heap.size := hown.out _ h.symm; have h2 := hWs.out; omega) (hsm.out 1 (by omega))).mono ?_
                        rintro e w1 ⟨⟨v, rfl, hR1, ht⟩, hk, hb⟩
                        exact ⟨⟨_, rfl⟩, hk.1, hI.first L3 L5 L6 L7 hR1 ht hk hb⟩
                      · intro x wx L hI hA hB hd hs
                        have e10 := ev_of (hs 10 (by kernel_rfl) : x.eval (.tmp 10) = .pointer (some ⟨wi.heap.size, 0, none⟩))
                        have hbx := (hI.keep.2 _ hWs.out hnb).trans hbox
                        have z0 := (blk_cell hbx 0).trans rfl
                        have z1 := (blk_cell hbx 1).trans rfl
                        have z2 := (blk_cell hbx 2).trans rfl
                        have z3 := (blk_cell hbx 3).trans rfl
                        have z4 := (blk_cell hbx 4).trans rfl
                        clear hd hs
                        refine wpOp_plain rfl rfl ?_
                        go_simp
                        first | exact ⟨_, rfl, fun _ => rfl, Nat.le_refl _, hI.put (.inr (.inr rfl)) (.inr (.inr rfl))⟩ | exact ⟨rfl, hI.put (.inr (.inr rfl)) (.inr (.inr rfl))⟩ | exact hI.put (.inr (.inr rfl)) (.inr (.inr rfl)) | exact ⟨_, rfl, rfl, hI.put (.inr (.inr rfl)) (.inr (.inr rfl))⟩ | exact ⟨_, rfl, rfl, Nat.le_refl _, hI.put (.inr (.inr rfl)) (.inr (.inr rfl))⟩
                      · intro x wx L hI hA hB hd hs
                        have e43 := ev_of (hd 4 _ 43 rfl rfl (by kernel_rfl) : x.eval (.tmp 43) = .agg #[.int .u64 vy.f0, .int .u64 vy.f1, .int .u64 vy.f2, .string vy.f3, .string vy.f4])
                        have L3 := hA 3 (by kernel_rfl)
                        have L6 := hB 6 (by kernel_rfl)
                        have L7 := hB 7 (by kernel_rfl)
                        clear hd hs
                        refine wpOp_plain rfl rfl ?_
                        go_simp
                        refine (blocks_calls _ _ _ _ _ _).mono ?_
                        rintro e w1 ⟨⟨v, rfl, hR1⟩, hb⟩
                        exact ⟨⟨_, rfl⟩, hb.size, hI.blocks L3 L6 L7 hR1 hb⟩
                      · intro x wx L hI hA hB hd hs
                        have L3 := hA 3 (by kernel_rfl)
                        have L5 := hA 5 (by kernel_rfl)
                        have L6 := hB 6 (by kernel_rfl)
                        have L7 := hB 7 (by kernel_rfl)
                        obtain ⟨A6, c6, hu44, hC6, hs6⟩ := hI.bs L5 L6
                        have hr1 := hI.r1 L3 L6
                        obtain ⟨u42, hu42⟩ : ∃ u, x.eval (.tmp 42) = u := ⟨_, rfl⟩
                        have e42 := ev_of hu42
                        have e44 := ev_of hu44
                        rw [hu42] at hs6 hr1
                        skip
                        refine wpOp_plain rfl rfl ?_
                        clear hd hs
                        go_simp
                        refine (once_calls w wx u42 (once1 cl vy) A6 c6 (blocksTo 4 vy.f0 vy.f1 vy.f2) hI.low hr1.1 hC6 hs6 hsn.out).mono ?_
                        rintro e w1 ⟨⟨v, rfl, hR1, ht⟩, hk, hb⟩
                        exact ⟨⟨_, rfl⟩, hk.1, hI.second L3 L6 L7 hR1 (hu42.symm ▸ ht) (hu42.symm ▸ hk) hb⟩
                      · intro x wx L hI hA hB hd hs
                        have L3 := hA 3 (by kernel_rfl)
                        have L6 := hA 6 (by kernel_rfl)
                        have hfin := hI.fin L3 L6
                        obtain ⟨u45, hu45⟩ : ∃ u, x.eval (.tmp 45) = u := ⟨_, rfl⟩
                        have e45 := ev_of hu45
                        rw [hu45] at hfin
                        skip
                        refine wpOp_plain rfl rfl ?_
                        clear hd hs
                        go_simp
                        exact ⟨⟨_, rfl⟩, hfin⟩
                    · intro vs wq hl hR hv
                      obtain ⟨v0, v1, v2, v3, v4, v5, v6, v7, rfl⟩ := list_8 hl
                      obtain rfl : u3 = v0 := (hv 0 v0 rfl rfl).symm
                      obtain rfl : .agg #[.int .u64 vy.f0, .int .u64 vy.f1, .int .u64 vy.f2, .string vy.f3, .string vy.f4] = v1 := (hv 1 v1 rfl rfl).symm
                      obtain rfl : .agg #[.int .u64 vy.f0, .int .u64 vy.f1, .int .u64 vy.f2, .string vy.f3, .string vy.f4] = v4 := (hv 4 v4 rfl rfl).symm
                      clear hv hl
                      simp only [List.map_cons, List.map_nil, putAll, Act.put, List.setIfInBounds_toArray, List.set_cons_zero, List.set_cons_succ]
                      have HI := hR (fun i => decide (i < 8)) (fun i hi => by simpa using hi) (fun i hi => by simpa using hi)
                      have r2 := HI.r2 rfl
                      have r3 := HI.r3 rfl
                      simp only [List.map_cons, List.map_nil, putAll, Act.put, List.setIfInBounds_toArray, List.set_cons_zero, List.set_cons_succ] at r2 r3
                      replace r2 : RH w W0 u3 wq v6 (pts2 cl vy) := r2
                      replace r3 : v7 = v6 := r3
                      have rk := HI.keep
                      have rl := HI.low
                      clear hR HI hi2
                      subst r3
                      go_wp2
                      go_roundg k4
                      case measure => have := HK2.out; omega
                      case rel =>
                        refine ⟨wrap64 (x35 + 1), rfl, ⟨W3.out.1⟩, ⟨W3.out.2⟩, ⟨by have := HK2.out; omega⟩, ⟨by rw [← HNext2.out]; exact r2.1, ?_⟩, ⟨(HW2.out.1.then_below hbW).trans rk HO2.out.2, rl⟩⟩
                        rcases r2.2 with h | ⟨b, h, hb⟩
                        · rw [h]; exact HO2.out.2
                        · exact .inr ⟨b, h, Nat.le_trans (HW2.out.1.then_below hbW).1 hb⟩
                  · have f2b0 : decide (x35 < (bl.length : Int)) = false := decide_eq_false f2
                    have ex : bl.take x35.toNat = bl := List.take_of_length_le (by have := HX2.out; omega)
                    rw [ex] at HO2
                    clear f2
                    go_wp2
                    go_roundg k2
                    case measure => have := HK1.out; omega
                    case rel => exact ⟨wrap64 (x21 + 1), rfl, ⟨W2.out.1⟩, ⟨W2.out.2⟩, ⟨by have := HK1.out; omega⟩, ⟨by rw [← HNext1.out, ← HPt.out]; exact HO2.out.1⟩, ⟨HW2.out.2⟩⟩
            · have d2b0 : decide (x21 < (li.length : Int)) = false := decide_eq_false d2
              have ex : li.take x21.toNat = li := List.take_of_length_le (by have := HX1.out; omega)
              rw [ex] at HO1
              clear d2
              go_wp2
              go_roundg k1
              case measure => have := HK.out; omega
              case rel => exact ⟨wrap64 (x15 + 1), rfl, ⟨W1.out.1⟩, ⟨W1.out.2⟩, ⟨by have := HK.out; omega⟩, ⟨by rw [← HNext.out]; exact HO1.out⟩, HB1⟩
      · have c2b0 : decide (x15 < (l0.length : Int)) = false := decide_eq_false c2
        have ex : l0.take x15.toNat = l0 := List.take_of_length_le (by have := HX.out; omega)
        rw [ex] at HO
        clear c2
        go_wp2
        go_ret
        exact ⟨⟨_, rfl, HO.out⟩, HB.out⟩
end Go.Proofs.YtgenbmhmcnaiiaaDoor.H
