/- Texts of this claim, joined. -/
import Derived.Test.YtgenbmhmcnaiiaaDoorTStKE
import Derived.Test.YtgenbmhmcnaiiaaDoorPGx0KE
import Derived.Test.YtgenbmhmcnaiiaaDoorBasicKE
import Derived.Test.YtgenbmhmcnaiiaaDoorListsKE
import Derived.Test.YtgenbmhmcnaiiaaDoorPGx1KE
import Derived.Test.YtgenbmhmcnaiiaaDoorHaNumKE
/- spec.Block: the least release above all that begin with a version's first numbers. -/
namespace Go.Proofs.YtgenbmhmcnaiiaaDoor.H
open Go.RowKit Go.Proofs.YtgenbmhmcnaiiaaDoorW.PrintWords Go.Proofs.YtgenbmhmcnaiiaaDoorW.PrintLast Go.Proofs.YtgenbmhmcnaiiaaDoorW.PrintMore
set_option linter.unusedVariables false
set_option linter.unusedSimpArgs false

def up (x : Int) : Int := IntKind.u64.wrap (x + 1)

end Go.Proofs.YtgenbmhmcnaiiaaDoor.H

/- spec.blocks: what spec.Block gives for one, two and three numbers. -/
namespace Go.Proofs.YtgenbmhmcnaiiaaDoor.H
open Go.RowKit Go.Proofs.YtgenbmhmcnaiiaaDoor.PG Go.Proofs.YtgenbmhmcnaiiaaDoorW.PrintWords Go.Proofs.YtgenbmhmcnaiiaaDoorW.PrintLast Go.Proofs.YtgenbmhmcnaiiaaDoorW.PrintMore
set_option linter.unusedVariables false
set_option linter.unusedSimpArgs false

end Go.Proofs.YtgenbmhmcnaiiaaDoor.H

/- spec.once: a list of versions with those of some others behind it that are not in it. -/
namespace Go.Proofs.YtgenbmhmcnaiiaaDoor.H
open Go.RowKit Go.Proofs.YtgenbmhmcnaiiaaDoor.PG Go.Proofs.YtgenbmhmcnaiiaaDoorW.PrintWords Go.Proofs.YtgenbmhmcnaiiaaDoorW.PrintLast Go.Proofs.YtgenbmhmcnaiiaaDoorW.PrintMore
attribute [local go_sem high] eqA27
set_option linter.unusedVariables false
set_option linter.unusedSimpArgs false

/-- Of the blocks of an elder world all but one stay. -/
def Keeps (w w' : World) (row : Option Nat) : Prop := w.heap.size ≤ w'.heap.size ∧ ∀ k, k < w.heap.size → some k ≠ row → w'.heap[k]? = w.heap[k]?
theorem Keeps.of_below {w w' : World} (row : Option Nat) (h : Below w.heap.size w w') : Keeps w w' row := ⟨h.size, fun k hk _ => h.block k hk⟩
theorem Keeps.trans {w w1 w2 : World} {row row' : Option Nat} (h : Keeps w w1 row) (h' : Keeps w1 w2 row') (hr : row' = row ∨ ∃ b, row' = some b ∧ w.heap.size ≤ b) : Keeps w w2 row := by
  refine ⟨Nat.le_trans h.1 h'.1, fun k hk hne => (h'.2 k (Nat.lt_of_lt_of_le hk h.1) ?_).trans (h.2 k hk hne)⟩
  rcases hr with rfl | ⟨b, rfl, hb⟩
  · exact hne
  · intro e
    cases e
    omega
theorem Keeps.then_below {w w1 w2 : World} {row : Option Nat} (h : Keeps w w1 row) (h' : Below w1.heap.size w1 w2) : Keeps w w2 row := h.trans (Keeps.of_below row h') (.inl rfl)
theorem add_block (a : Addr) (n : Nat) : (a.add n).block = a.block := by
  unfold Addr.add
  split <;> rfl
theorem cell_same {w w' : World} {a : Addr} {u : Value} (h : w.cell? a = some u) (e : w'.heap[a.block]? = w.heap[a.block]?) : w'.cell? a = some u := by
  rw [← h]
  unfold World.cell?
  rw [e]
theorem Keeps.cell {w w' : World} {row : Option Nat} (h : Keeps w w' row) {a : Addr} {u : Value} (hc : w.cell? a = some u) (hr : some a.block ≠ row) : w'.cell? a = some u :=
  cell_same hc (h.2 _ (World.block_lt_of_cell? w _ hc) hr)

def eqb (x y : S27) : Bool := x.f0 == y.f0 && (x.f1 == y.f1 && (x.f2 == y.f2 && (x.f3.toList == y.f3.toList && (x.f4.toList == y.f4.toList))))
def once1 (l : List S27) (v : S27) : List S27 := if l.any (eqb v) = true then l else l ++ [v]
def onceL (l more : List S27) : List S27 := more.foldl once1 l

end Go.Proofs.YtgenbmhmcnaiiaaDoor.H

/- One round of spec.Points: what is told while its region runs in any order. -/
namespace Go.Proofs.YtgenbmhmcnaiiaaDoor.H
open Go.RowKit Go.Proofs.YtgenbmhmcnaiiaaDoor.PG Go.Proofs.YtgenbmhmcnaiiaaDoorW.PrintWords Go.Proofs.YtgenbmhmcnaiiaaDoorW.PrintLast Go.Proofs.YtgenbmhmcnaiiaaDoorW.PrintMore
set_option linter.unusedVariables false
set_option linter.unusedSimpArgs false

/-- A row of one version that has just been made. -/
theorem R_one27 (w : World) (x : S27) : Kd.R k27 27 (w.alloc (.cells #[.int .u64 x.f0, .int .u64 x.f1, .int .u64 x.f2, .string x.f3, .string x.f4] 27)) w.heap.size (fun _ => True) (.slice (some ⟨w.heap.size, 0, none⟩) 1 1) [x] := by
  refine ⟨fun _ _ => trivial, [.int .u64 x.f0, .int .u64 x.f1, .int .u64 x.f2, .string x.f3, .string x.f4], ?_, ?_⟩
  · have h2 := World.ownsRow_lit (base := w.heap.size) (e := 27) (size := 5) w #[.int .u64 x.f0, .int .u64 x.f1, .int .u64 x.f2, .string x.f3, .string x.f4] 1 (Nat.le_refl _) (by decide) (by simp)
    show World.ownsRow _ _ 27 5 _ _ _
    simpa using h2
  · exact Reps.c5 (k27_mkM _ _ _ x) (Reps.none _ _)
theorem C_one27 (w : World) (x : S27) : Kd.C k27 (w.alloc (.cells #[.int .u64 x.f0, .int .u64 x.f1, .int .u64 x.f2, .string x.f3, .string x.f4] 27)) (some ⟨w.heap.size, 0, none⟩) 1 [x] := by
  obtain ⟨A, c, e, _, h⟩ := Kd.R_reads (R_one27 w x)
  cases e
  exact h
theorem R_own_lt {w : World} {base : Nat} {v : Value} {xs : List S27} (h : Kd.R k27 27 w base (fun _ => True) v xs) {k : Nat} (hk : v.ownBlock = some k) : base ≤ k ∧ k < w.heap.size := by
  obtain ⟨inner, ho⟩ := Kd.R_own h
  exact ⟨own_base ho k hk, own_lt ho k hk⟩

def RH (w W0 : World) (u : Value) (wx : World) (v : Value) (xs : List S27) : Prop := Kd.R k27 27 wx w.heap.size (fun _ => True) v xs ∧ (v.ownBlock = u.ownBlock ∨ ∃ b, v.ownBlock = some b ∧ W0.heap.size ≤ b)
structure PtInv (w W0 : World) (u : Value) (cl bl : List S27) (vx : S27) (L : Nat → Bool) (x : Act) (wx : World) : Prop where
  size : 50 ≤ x.tmps.size
  keep : Keeps W0 wx u.ownBlock
  low : Below w.heap.size w wx
  r0 : L 3 = false → Kd.R k27 27 wx w.heap.size (fun _ => True) u cl
  one : L 2 = true → L 3 = false → ∃ g, x.eval (.tmp 41) = .slice (some ⟨g, 0, none⟩) 1 1 ∧ W0.heap.size ≤ g ∧ Kd.C k27 wx (some ⟨g, 0, none⟩) 1 [vx]
  r1 : L 3 = true → L 6 = false → RH w W0 u wx (x.eval (.tmp 42)) (once1 cl vx)
  bs : L 5 = true → L 6 = false → ∃ A c, x.eval (.tmp 44) = .slice A bl.length c ∧ Kd.C k27 wx A bl.length bl ∧ ∀ ad, A = some ad → some ad.block ≠ (x.eval (.tmp 42)).ownBlock
  r2 : L 6 = true → RH w W0 u wx (x.eval (.tmp 45)) (onceL (once1 cl vx) bl)
  r3 : L 7 = true → x.eval (.tmp 3) = x.eval (.tmp 45)
section
variable {w W0 wx : World} {u : Value} {cl bl : List S27} {vx : S27} {L : Nat → Bool} {x : Act}
theorem PtInv.lit (h : PtInv w W0 u cl bl vx L x wx) (h3 : L 3 = false) (h5 : L 5 = false) (h6 : L 6 = false) (h7 : L 7 = false) :
    PtInv w W0 u cl bl vx (done1 L 2) (x.put (some 41) (.slice (some ⟨wx.heap.size, 0, none⟩) 1 1)) (wx.alloc (.cells #[.int .u64 vx.f0, .int .u64 vx.f1, .int .u64 vx.f2, .string vx.f3, .string vx.f4] 27)) := by
  have e1 : (x.put (some 41) (.slice (some ⟨wx.heap.size, 0, none⟩) 1 1)).eval (.tmp 41) = .slice (some ⟨wx.heap.size, 0, none⟩) 1 1 := eval_put_same (Nat.lt_of_lt_of_le (by decide) h.size)
  refine ⟨by rw [put_size]; exact h.size, h.keep.then_below (below_new _ _), chain h.low (below_new _ _), ?_, ?_, ?_, ?_, ?_, ?_⟩
  · rw [done1_ne (by decide)]; exact fun k => Kd.R_below (h.r0 k) (below_new _ _)
  · rw [e1]; exact fun _ _ => ⟨_, rfl, h.keep.1, C_one27 _ _⟩
  · rw [done1_ne (by decide), h3]; exact fun k => by cases k
  · rw [done1_ne (by decide), h5]; exact fun k => by cases k
  · rw [done1_ne (by decide), h6]; exact fun k => by cases k
  · rw [done1_ne (by decide), h7]; exact fun k => by cases k
theorem PtInv.first (h : PtInv w W0 u cl bl vx L x wx) (h3 : L 3 = false) (h5 : L 5 = false) (h6 : L 6 = false) (h7 : L 7 = false) {v : Value} {w' : World} (hR : Kd.R k27 27 w' w.heap.size (fun _ => True) v (once1 cl vx))
    (ht : v.ownBlock = u.ownBlock ∨ ∃ b, v.ownBlock = some b ∧ wx.heap.size ≤ b) (hk : Keeps wx w' u.ownBlock) (hB : Below w.heap.size w w') : PtInv w W0 u cl bl vx (done1 L 3) (x.put (some 42) v) w' := by
  have e2 : (x.put (some 42) v).eval (.tmp 42) = v := eval_put_same (Nat.lt_of_lt_of_le (by decide) h.size)
  refine ⟨by rw [put_size]; exact h.size, h.keep.trans hk (.inl rfl), hB, ?_, ?_, ?_, ?_, ?_, ?_⟩
  · rw [done1_eq]; exact fun k => by cases k
  · rw [done1_eq]; exact fun _ k => by cases k
  · rw [e2]
    refine fun _ _ => ⟨hR, ?_⟩
    rcases ht with ht | ⟨b, ht, hb⟩
    · exact .inl ht
    · exact .inr ⟨b, ht, Nat.le_trans h.keep.1 hb⟩
  · rw [done1_ne (by decide), h5]; exact fun k => by cases k
  · rw [done1_ne (by decide), h6]; exact fun k => by cases k
  · rw [done1_ne (by decide), h7]; exact fun k => by cases k
theorem PtInv.blocks (h : PtInv w W0 u cl bl vx L x wx) (h3 : L 3 = true) (h6 : L 6 = false) (h7 : L 7 = false) {v : Value} {w' : World} (hR : Kd.R k27 27 w' wx.heap.size (fun _ => True) v bl) (hB : Below wx.heap.size wx w') :
    PtInv w W0 u cl bl vx (done1 L 5) (x.put (some 44) v) w' := by
  have e2 : (x.put (some 44) v).eval (.tmp 42) = x.eval (.tmp 42) := eval_put_other (by decide)
  have e4 : (x.put (some 44) v).eval (.tmp 44) = v := eval_put_same (Nat.lt_of_lt_of_le (by decide) h.size)
  have k1 := h.r1 h3 h6
  refine ⟨by rw [put_size]; exact h.size, h.keep.then_below hB, chain h.low hB, ?_, ?_, ?_, ?_, ?_, ?_⟩
  · rw [done1_ne (by decide), h3]; exact fun k => by cases k
  · rw [done1_ne (by decide), done1_ne (by decide), h3]; exact fun _ k => by cases k
  · rw [e2]
    exact fun _ _ => ⟨Kd.R_below k1.1 hB, k1.2⟩
  · rw [e4, e2]
    intro _ _
    obtain ⟨A, c, rfl, _, hC⟩ := Kd.R_reads hR
    refine ⟨A, c, rfl, hC, fun ad e he => ?_⟩
    have l1 := (R_own_lt k1.1 he.symm).2
    subst e
    have l2 := (R_own_lt hR (k := ad.block) rfl).1
    omega
  · rw [done1_ne (by decide), h6]; exact fun k => by cases k
  · rw [done1_ne (by decide), h7]; exact fun k => by cases k
theorem PtInv.second (h : PtInv w W0 u cl bl vx L x wx) (h3 : L 3 = true) (h6 : L 6 = false) (h7 : L 7 = false) {v : Value} {w' : World} (hR : Kd.R k27 27 w' w.heap.size (fun _ => True) v (onceL (once1 cl vx) bl))
    (ht : v.ownBlock = (x.eval (.tmp 42)).ownBlock ∨ ∃ b, v.ownBlock = some b ∧ wx.heap.size ≤ b) (hk : Keeps wx w' (x.eval (.tmp 42)).ownBlock) (hB : Below w.heap.size w w') : PtInv w W0 u cl bl vx (done1 L 6) (x.put (some 45) v) w' := by
  have e5 : (x.put (some 45) v).eval (.tmp 45) = v := eval_put_same (Nat.lt_of_lt_of_le (by decide) h.size)
  have k1 := h.r1 h3 h6
  refine ⟨by rw [put_size]; exact h.size, h.keep.trans hk k1.2, hB, ?_, ?_, ?_, ?_, ?_, ?_⟩
  · rw [done1_ne (by decide), h3]; exact fun k => by cases k
  · rw [done1_ne (by decide), done1_ne (by decide), h3]; exact fun _ k => by cases k
  · rw [done1_eq]; exact fun _ k => by cases k
  · rw [done1_eq]; exact fun _ k => by cases k
  · rw [e5]
    refine fun _ => ⟨hR, ?_⟩
    rcases ht with ht | ⟨b, ht, hb⟩
    · rw [ht]; exact k1.2
    · exact .inr ⟨b, ht, Nat.le_trans h.keep.1 hb⟩
  · rw [done1_ne (by decide), h7]; exact fun k => by cases k
theorem PtInv.fin (h : PtInv w W0 u cl bl vx L x wx) (h3 : L 3 = true) (h6 : L 6 = true) : PtInv w W0 u cl bl vx (done1 L 7) (x.put (some 3) (x.eval (.tmp 45))) wx := by
  have e3 : (x.put (some 3) (x.eval (.tmp 45))).eval (.tmp 3) = x.eval (.tmp 45) := eval_put_same (Nat.lt_of_lt_of_le (by decide) h.size)
  have e5 : (x.put (some 3) (x.eval (.tmp 45))).eval (.tmp 45) = x.eval (.tmp 45) := eval_put_other (by decide)
  refine ⟨by rw [put_size]; exact h.size, h.keep, h.low, ?_, ?_, ?_, ?_, ?_, ?_⟩
  · rw [done1_ne (by decide), h3]; exact fun k => by cases k
  · rw [done1_ne (by decide), done1_ne (by decide), h3]; exact fun _ k => by cases k
  · rw [done1_ne (by decide), done1_ne (by decide), h6]; exact fun _ k => by cases k
  · rw [done1_ne (by decide), done1_ne (by decide), h6]; exact fun _ k => by cases k
  · rw [e5]; exact fun _ => h.r2 h6
  · rw [e3, e5]; exact fun _ => rfl
end
end Go.Proofs.YtgenbmhmcnaiiaaDoor.H
