/- errors.Is at two sentinels of errors.New's make (after the kit's SentryIs). -/
import Derived.Test.YtgenbmhmcnaiiaaDoorHaRowK3
import Derived.WalkKit
import Derived.LaidEql
import Derived.Stop.Asserts
import Derived.RowKitTokens
namespace Go.Proofs.YtgenbmhmcnaiiaaDoor.H
open Go.RowKit Go.Extern.Stop Go.Stop Go.Extern
set_option linter.unusedVariables false
set_option linter.unusedSimpArgs false

theorem isTypeOf (v : Value) (w : World) : (Extern.ReflectliteType.typeOf #[.iface 179 v]).run Tryd.prog w = .ok (.iface 156 (.agg #[.pointer (some ⟨14, 179, none⟩)])) w := by kernel_rfl
theorem isComparable (w : World) : ((Extern.ReflectliteType.method fun t => do Extern.Rtype.noPackHeld "Comparable" t; pure (.bool (← typeInfo t).comparable)) #[.agg #[.pointer (some ⟨14, 179, none⟩)]]).run Tryd.prog w = .ok (.bool true) w := by kernel_rfl
theorem isMethodComparable (v : Value) (w : World) : (Go.method 328 156 v "Comparable").run Tryd.prog w = .ok (208, v) w := by kernel_rfl
theorem isComp : (Tryd.prog.info? 179).map (·.comparable) = some true := by kernel_rfl
theorem isSize : (Tryd.prog.info? 181).map (·.size) = some 1 := by kernel_rfl
theorem noIsE (v : Value) (xT : TypeId) (w : World) : (Instr.typeAssert (.iface 179 v) xT 158 true).run Tryd.prog w = .ok (.tuple #[.nilIface, .bool false]) w := run_typeAssert_lacksB Tryd.underlying158 (by kernel_rfl) (by kernel_rfl) v xT w
theorem noUnwrapE (v : Value) (xT : TypeId) (w : World) : (Instr.typeAssert (.iface 179 v) xT 161 true).run Tryd.prog w = .ok (.tuple #[.nilIface, .bool false]) w := run_typeAssert_lacksB Tryd.underlying161 (by kernel_rfl) (by kernel_rfl) v xT w
theorem noUnwrapsE (v : Value) (xT : TypeId) (w : World) : (Instr.typeAssert (.iface 179 v) xT 163 true).run Tryd.prog w = .ok (.tuple #[.nilIface, .bool false]) w := run_typeAssert_lacksB Tryd.underlying163 (by kernel_rfl) (by kernel_rfl) v xT w

theorem call146 (v : Value) (w : World) : (callFunc 146 #[.iface 179 v]).run Tryd.prog w = .ok (.value (.iface 156 (.agg #[.pointer (some ⟨14, 179, none⟩)]))) w := by
  have h := @run_callFunc_extern Tryd.prog 146 _ Extern.ReflectliteType.typeOf Tryd.func146 (by kernel_rfl) (by kernel_rfl) (by kernel_rfl) (by kernel_rfl)
  rw [h, isTypeOf]
  rfl
theorem call208 (w : World) : (callFunc 208 #[.agg #[.pointer (some ⟨14, 179, none⟩)]]).run Tryd.prog w = .ok (.value (.bool true)) w := by
  have h := @run_callFunc_extern Tryd.prog 208 _ (Extern.ReflectliteType.method fun t => do Extern.Rtype.noPackHeld "Comparable" t; pure (.bool (← typeInfo t).comparable)) Tryd.func208 (by kernel_rfl) (by kernel_rfl) (by kernel_rfl) (by kernel_rfl)
  rw [h, isComparable]
  rfl
theorem is_same (a : Addr) (w : World) :
    Calls Tryd.prog 118 #[.iface 179 (.pointer (some a)), .iface 179 (.pointer (some a))] w fun e w' => e = .returned (.bool true) ∧ w' = w := by
  obtain ⟨i, hi, hcmp⟩ := Option.map_eq_some_iff.1 isComp
  obtain ⟨j, hj, hjs⟩ := Option.map_eq_some_iff.1 isSize
  have h8 := call146
  have h32 := call208
  have mR := isMethodComparable
  have heq := run_eql_iface_ptr_same (P := Tryd.prog) w a Tryd.underlying79 Tryd.underlying179 hi hcmp hj
  go_enter Tryd.func118, Tryd.ntmps118
  go_wp2
  refine wp_loop_rounds 1 ?_
  rw [rounds_succ]
  go_wp2
  go_ret
  exact ⟨rfl, rfl⟩

theorem is_other (a b : Addr) (ca cb : Array Value) (ta tb : TypeId) (w : World) (hne : a ≠ b) (ha : w.heap[a.block]? = some (.cells ca ta (0, 0))) (hb : w.heap[b.block]? = some (.cells cb tb (0, 0))) :
    Calls Tryd.prog 118 #[.iface 179 (.pointer (some a)), .iface 179 (.pointer (some b))] w fun e w' => e = .returned (.bool false) ∧ w' = w := by
  obtain ⟨i, hi, hcmp⟩ := Option.map_eq_some_iff.1 isComp
  obtain ⟨j, hj, hjs⟩ := Option.map_eq_some_iff.1 isSize
  have h8 := call146
  have h32 := call208
  have mR := isMethodComparable
  have nE := noIsE
  have uE := noUnwrapE
  have vE := noUnwrapsE
  have heq := run_eql_iface_ptr_other (P := Tryd.prog) w Tryd.underlying79 Tryd.underlying179 hi hcmp hj (by rw [hjs]; decide) hne ha hb
  go_enter Tryd.func118, Tryd.ntmps118
  go_wp2
  refine wp_loop_rounds 1 ?_
  rw [rounds_succ]
  go_wp2
  go_ret
  exact ⟨rfl, rfl⟩
end Go.Proofs.YtgenbmhmcnaiiaaDoor.H
