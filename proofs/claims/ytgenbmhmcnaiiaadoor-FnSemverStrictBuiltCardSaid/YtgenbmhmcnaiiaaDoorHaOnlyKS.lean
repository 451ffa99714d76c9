/- containsOnly: which bytes a text has. -/
import Derived.Test.YtgenbmhmcnaiiaaDoorHaRuneKS
namespace Go.Proofs.YtgenbmhmcnaiiaaDoor.H
open Go.RowKit Go.Proofs.YtgenbmhmcnaiiaaDoorW.PrintWords
set_option linter.unusedVariables false
set_option linter.unusedSimpArgs false

theorem below_new' (w : World) (o : Obj) : Below w.heap.size w (w.alloc o) := (Below.refl _ _).alloc (Nat.le_refl _) _
set_option maxRecDepth 100000 in
theorem containsrune_calls (s : ByteArray) (x : Nat) (hx : x ≤ 1114111) (w : World) :
    Calls Tryd.prog 153 #[.string s, .int .i32 (x : Int)] w fun e w' => e = .returned (.bool (decide (0 ≤ zr s x))) ∧ Below w.heap.size w w' := by
  have C := Lib.hid (indexrune_calls s x hx w)
  generalize zr s x = z at *
  go_enter Tryd.func153, Tryd.ntmps153
  go_wp2_with (go_at_call 168; refine C.out.mono ?_; rintro e w1 ⟨rfl, hb⟩)
  go_ret
  exact ⟨by simp, hb⟩

def notIn (comp : ByteArray) (x : Nat) : Bool := !(decide (0 ≤ zr comp x))
set_option maxRecDepth 100000 in
theorem notin_calls (comp : ByteArray) (g : Nat) (x : Nat) (hx : x ≤ 1114111) (w : World) (hc : w.cell? ⟨g, 0, none⟩ = some (.string comp)) :
    Calls Tryd.prog 152 (#[.int .i32 (x : Int)] ++ #[.pointer (some ⟨g, 0, none⟩)]) w fun e w' => e = .returned (.bool (notIn comp x)) ∧ Below w.heap.size w w' := by
  have C := Lib.hid (containsrune_calls comp x hx w)
  unfold notIn
  generalize decide (0 ≤ zr comp x) = z at *
  change Calls Tryd.prog 152 #[.int .i32 (x : Int), .pointer (some ⟨g, 0, none⟩)] w _
  go_enter Tryd.func152, Tryd.ntmps152
  go_wp2_with (go_at_call 153; refine C.out.mono ?_; rintro e w1 ⟨rfl, hb⟩)
  go_ret
  exact ⟨by simp, hb⟩

def only (s comp : ByteArray) : Bool := Lib.idxFunc (notIn comp) true s == -1
set_option maxRecDepth 100000 in
theorem only_calls (s comp : ByteArray) (w : World) :
    Calls Tryd.prog 137 #[.string s, .string comp] w fun e w' => e = .returned (.bool (only s comp)) ∧ Below w.heap.size w w' := by
  have hu9 := Tryd.underlying9
  have eg : ∀ args w, (callFunc 152 args).run Tryd.prog w = .ok (.enter 152 args) w := enters_of Tryd.func152 (by kernel_rfl) rfl
  have hcell : (w.alloc (.cells #[.string comp] 9)).cell? ⟨w.heap.size, 0, none⟩ = some (.string comp) := (blk_cell (heap_alloc_new w _) 0).trans rfl
  have hp : PredGrows Tryd.prog 152 #[.pointer (some ⟨w.heap.size, 0, none⟩)] (notIn comp) (w.alloc (.cells #[.string comp] 9)) := by
    intro W x hx hb
    exact notin_calls comp w.heap.size x hx W ((hb.cell (World.block_lt_of_cell? _ _ hcell)).trans hcell)
  have F := Lib.hid (Tryd.strings_IndexFunc_grows 152 #[.pointer (some ⟨w.heap.size, 0, none⟩)] eg (notIn comp) s (w.alloc (.cells #[.string comp] 9)) hp)
  have q0 := below_new' w (.cells #[.string comp] 9)
  unfold only
  generalize Lib.idxFunc (notIn comp) true s = z at *
  clear hp hcell eg
  go_enter Tryd.func137, Tryd.ntmps137
  go_wp2_with (go_at_call 151; refine F.out.mono ?_; rintro e w1 ⟨rfl, hb⟩)
  go_ret
  exact ⟨by simp, chain q0 hb⟩
end Go.Proofs.YtgenbmhmcnaiiaaDoor.H
