/- Texts of this claim, joined. -/
import Derived.Test.YtgenbmhmcnaiiaaDoorPtsKE
import Derived.Test.YtgenbmhmcnaiiaaDoorListsKE
import Derived.Test.YtgenbmhmcnaiiaaDoorPGAKE
import Derived.Test.YtgenbmhmcnaiiaaDoorPGx8KE
import Derived.Test.YtgenbmhmcnaiiaaDoorPGx5KE
import Derived.Test.YtgenbmhmcnaiiaaDoorTStKE
import Derived.Test.YtgenbmhmcnaiiaaDoorHaRegionKE
/- laws.FnSemverTermsEither: what the guards refuse. -/
namespace Go.Proofs.YtgenbmhmcnaiiaaDoor.H
open Go.RowKit Go.Proofs.YtgenbmhmcnaiiaaDoor.PG Go.Proofs.YtgenbmhmcnaiiaaDoorW.PrintWords Go.Proofs.YtgenbmhmcnaiiaaDoorW.PrintLast Go.Proofs.YtgenbmhmcnaiiaaDoorW.PrintMore
set_option linter.unusedVariables false
set_option linter.unusedSimpArgs false

set_option maxRecDepth 100000 in
set_option maxHeartbeats 4000000 in
theorem either_bad0 (k : Nat) (A0 : Option Addr) (c0 : Nat) (l0 : List (List S54)) (A1 : Option Addr) (c1 : Nat) (l1 : List (List S54)) (a b c : Int) (p m : ByteArray) (pre : Bool) (w : World) (hr0 : Kd.C (Kd.slice 54 k54) w A0 l0.length l0) (hc0 : l0.length ≤ c0) (hr1 : Kd.C (Kd.slice 54 k54) w A1 l1.length l1) (hc1 : l1.length ≤ c1) (hA : laws_zzFits11.f k l0 = some false) :
    Calls Tryd.prog 17 #[.slice A0 l0.length c0, .slice A1 l1.length c1, .agg #[.int .u64 a, .int .u64 b, .int .u64 c, .string p, .string m], .bool pre] w fun e w' => e = .returned (.bool true) ∧ Below w.heap.size w w' := by
  have hu27 := Tryd.underlying27
  have hu67 := Tryd.underlying67
  have HR0 := Aside0.mk hr0
  have HC0 := Aside0.mk hc0
  have HR1 := Aside0.mk hr1
  have HC1 := Aside0.mk hc1
  have V0 := heap_alloc_new w (.cells #[.int .u64 a, .int .u64 b, .int .u64 c, .string p, .string m] 27)
  have B0 := Aside0.mk (below_new w (.cells #[.int .u64 a, .int .u64 b, .int .u64 c, .string p, .string m] 27))
  have z0 : (w.alloc (.cells #[.int .u64 a, .int .u64 b, .int .u64 c, .string p, .string m] 27)).cell? ⟨w.heap.size, 0, none⟩ = some (.int .u64 a) := (blk_cell V0 0).trans rfl
  have z1 : (w.alloc (.cells #[.int .u64 a, .int .u64 b, .int .u64 c, .string p, .string m] 27)).cell? ⟨w.heap.size, 1, none⟩ = some (.int .u64 b) := (blk_cell V0 1).trans rfl
  have z2 : (w.alloc (.cells #[.int .u64 a, .int .u64 b, .int .u64 c, .string p, .string m] 27)).cell? ⟨w.heap.size, 2, none⟩ = some (.int .u64 c) := (blk_cell V0 2).trans rfl
  have z3 : (w.alloc (.cells #[.int .u64 a, .int .u64 b, .int .u64 c, .string p, .string m] 27)).cell? ⟨w.heap.size, 3, none⟩ = some (.string p) := (blk_cell V0 3).trans rfl
  have z4 : (w.alloc (.cells #[.int .u64 a, .int .u64 b, .int .u64 c, .string p, .string m] 27)).cell? ⟨w.heap.size, 4, none⟩ = some (.string m) := (blk_cell V0 4).trans rfl
  replace V0 := Aside0.mk V0
  clear hr0 hc0 hr1 hc1
  have HA := Aside0.mk hA
  clear hA
  go_enter Tryd.func17, Tryd.ntmps17
  go_wp2_with (first | (first | (go_at_call 68; clear z0 z1 z2 z3 z4; refine (laws_zzFits11.calls k A0 c0 l0 _ _ (Kd.C_below HR0.out B0.out) HC0.out HA.out).mono ?_; rintro e w1 ⟨rfl, hb⟩; have B1 : Aside0 (Below w.heap.size w w1) := Aside0.mk (chain B0.out hb); have V1 := (hb.block _ (blk_lt V0.out)).trans V0.out; have z0 : w1.cell? ⟨w.heap.size, 0, none⟩ = some (.int .u64 a) := (blk_cell V1 0).trans rfl; have z1 : w1.cell? ⟨w.heap.size, 1, none⟩ = some (.int .u64 b) := (blk_cell V1 1).trans rfl; have z2 : w1.cell? ⟨w.heap.size, 2, none⟩ = some (.int .u64 c) := (blk_cell V1 2).trans rfl; have z3 : w1.cell? ⟨w.heap.size, 3, none⟩ = some (.string p) := (blk_cell V1 3).trans rfl; have z4 : w1.cell? ⟨w.heap.size, 4, none⟩ = some (.string m) := (blk_cell V1 4).trans rfl; replace V1 := Aside0.mk V1; clear hb HA) | (go_at_call 68; clear z0 z1 z2 z3 z4; refine (laws_zzFits11.calls k A1 c1 l1 _ _ (Kd.C_below HR1.out B1.out) HC1.out HB.out).mono ?_; rintro e w2 ⟨rfl, hb⟩; have B2 : Aside0 (Below w.heap.size w w2) := Aside0.mk (chain B1.out hb); have V2 := (hb.block _ (blk_lt V1.out)).trans V1.out; have z0 : w2.cell? ⟨w.heap.size, 0, none⟩ = some (.int .u64 a) := (blk_cell V2 0).trans rfl; have z1 : w2.cell? ⟨w.heap.size, 1, none⟩ = some (.int .u64 b) := (blk_cell V2 1).trans rfl; have z2 : w2.cell? ⟨w.heap.size, 2, none⟩ = some (.int .u64 c) := (blk_cell V2 2).trans rfl; have z3 : w2.cell? ⟨w.heap.size, 3, none⟩ = some (.string p) := (blk_cell V2 3).trans rfl; have z4 : w2.cell? ⟨w.heap.size, 4, none⟩ = some (.string m) := (blk_cell V2 4).trans rfl; replace V2 := Aside0.mk V2; clear hb HB)))
  go_ret
  exact ⟨rfl, B1.out⟩
set_option maxRecDepth 100000 in
set_option maxHeartbeats 4000000 in
theorem either_bad1 (k : Nat) (A0 : Option Addr) (c0 : Nat) (l0 : List (List S54)) (A1 : Option Addr) (c1 : Nat) (l1 : List (List S54)) (a b c : Int) (p m : ByteArray) (pre : Bool) (w : World) (hr0 : Kd.C (Kd.slice 54 k54) w A0 l0.length l0) (hc0 : l0.length ≤ c0) (hr1 : Kd.C (Kd.slice 54 k54) w A1 l1.length l1) (hc1 : l1.length ≤ c1) (hA : laws_zzFits11.f k l0 = some true) (hB : laws_zzFits11.f k l1 = some false) :
    Calls Tryd.prog 17 #[.slice A0 l0.length c0, .slice A1 l1.length c1, .agg #[.int .u64 a, .int .u64 b, .int .u64 c, .string p, .string m], .bool pre] w fun e w' => e = .returned (.bool true) ∧ Below w.heap.size w w' := by
  have hu27 := Tryd.underlying27
  have hu67 := Tryd.underlying67
  have HR0 := Aside0.mk hr0
  have HC0 := Aside0.mk hc0
  have HR1 := Aside0.mk hr1
  have HC1 := Aside0.mk hc1
  have V0 := heap_alloc_new w (.cells #[.int .u64 a, .int .u64 b, .int .u64 c, .string p, .string m] 27)
  have B0 := Aside0.mk (below_new w (.cells #[.int .u64 a, .int .u64 b, .int .u64 c, .string p, .string m] 27))
  have z0 : (w.alloc (.cells #[.int .u64 a, .int .u64 b, .int .u64 c, .string p, .string m] 27)).cell? ⟨w.heap.size, 0, none⟩ = some (.int .u64 a) := (blk_cell V0 0).trans rfl
  have z1 : (w.alloc (.cells #[.int .u64 a, .int .u64 b, .int .u64 c, .string p, .string m] 27)).cell? ⟨w.heap.size, 1, none⟩ = some (.int .u64 b) := (blk_cell V0 1).trans rfl
  have z2 : (w.alloc (.cells #[.int .u64 a, .int .u64 b, .int .u64 c, .string p, .string m] 27)).cell? ⟨w.heap.size, 2, none⟩ = some (.int .u64 c) := (blk_cell V0 2).trans rfl
  have z3 : (w.alloc (.cells #[.int .u64 a, .int .u64 b, .int .u64 c, .string p, .string m] 27)).cell? ⟨w.heap.size, 3, none⟩ = some (.string p) := (blk_cell V0 3).trans rfl
  have z4 : (w.alloc (.cells #[.int .u64 a, .int .u64 b, .int .u64 c, .string p, .string m] 27)).cell? ⟨w.heap.size, 4, none⟩ = some (.string m) := (blk_cell V0 4).trans rfl
  replace V0 := Aside0.mk V0
  clear hr0 hc0 hr1 hc1
  have HA := Aside0.mk hA
  have HB := Aside0.mk hB
  clear hA hB
  go_enter Tryd.func17, Tryd.ntmps17
  go_wp2_with (first | (first | (go_at_call 68; clear z0 z1 z2 z3 z4; refine (laws_zzFits11.calls k A0 c0 l0 _ _ (Kd.C_below HR0.out B0.out) HC0.out HA.out).mono ?_; rintro e w1 ⟨rfl, hb⟩; have B1 : Aside0 (Below w.heap.size w w1) := Aside0.mk (chain B0.out hb); have V1 := (hb.block _ (blk_lt V0.out)).trans V0.out; have z0 : w1.cell? ⟨w.heap.size, 0, none⟩ = some (.int .u64 a) := (blk_cell V1 0).trans rfl; have z1 : w1.cell? ⟨w.heap.size, 1, none⟩ = some (.int .u64 b) := (blk_cell V1 1).trans rfl; have z2 : w1.cell? ⟨w.heap.size, 2, none⟩ = some (.int .u64 c) := (blk_cell V1 2).trans rfl; have z3 : w1.cell? ⟨w.heap.size, 3, none⟩ = some (.string p) := (blk_cell V1 3).trans rfl; have z4 : w1.cell? ⟨w.heap.size, 4, none⟩ = some (.string m) := (blk_cell V1 4).trans rfl; replace V1 := Aside0.mk V1; clear hb HA) | (go_at_call 68; clear z0 z1 z2 z3 z4; refine (laws_zzFits11.calls k A1 c1 l1 _ _ (Kd.C_below HR1.out B1.out) HC1.out HB.out).mono ?_; rintro e w2 ⟨rfl, hb⟩; have B2 : Aside0 (Below w.heap.size w w2) := Aside0.mk (chain B1.out hb); have V2 := (hb.block _ (blk_lt V1.out)).trans V1.out; have z0 : w2.cell? ⟨w.heap.size, 0, none⟩ = some (.int .u64 a) := (blk_cell V2 0).trans rfl; have z1 : w2.cell? ⟨w.heap.size, 1, none⟩ = some (.int .u64 b) := (blk_cell V2 1).trans rfl; have z2 : w2.cell? ⟨w.heap.size, 2, none⟩ = some (.int .u64 c) := (blk_cell V2 2).trans rfl; have z3 : w2.cell? ⟨w.heap.size, 3, none⟩ = some (.string p) := (blk_cell V2 3).trans rfl; have z4 : w2.cell? ⟨w.heap.size, 4, none⟩ = some (.string m) := (blk_cell V2 4).trans rfl; replace V2 := Aside0.mk V2; clear hb HB)))
  go_ret
  exact ⟨rfl, B2.out⟩
set_option maxRecDepth 100000 in
set_option maxHeartbeats 4000000 in
theorem either_bad2 (k : Nat) (A0 : Option Addr) (c0 : Nat) (l0 : List (List S54)) (A1 : Option Addr) (c1 : Nat) (l1 : List (List S54)) (a b c : Int) (p m : ByteArray) (pre : Bool) (w : World) (hr0 : Kd.C (Kd.slice 54 k54) w A0 l0.length l0) (hc0 : l0.length ≤ c0) (hr1 : Kd.C (Kd.slice 54 k54) w A1 l1.length l1) (hc1 : l1.length ≤ c1) (hA : laws_zzFits11.f k l0 = some true) (hB : laws_zzFits11.f k l1 = some true) (hV : laws_zzFits14.f a b c p m = some false) :
    Calls Tryd.prog 17 #[.slice A0 l0.length c0, .slice A1 l1.length c1, .agg #[.int .u64 a, .int .u64 b, .int .u64 c, .string p, .string m], .bool pre] w fun e w' => e = .returned (.bool true) ∧ Below w.heap.size w w' := by
  have hu27 := Tryd.underlying27
  have hu67 := Tryd.underlying67
  have HR0 := Aside0.mk hr0
  have HC0 := Aside0.mk hc0
  have HR1 := Aside0.mk hr1
  have HC1 := Aside0.mk hc1
  have V0 := heap_alloc_new w (.cells #[.int .u64 a, .int .u64 b, .int .u64 c, .string p, .string m] 27)
  have B0 := Aside0.mk (below_new w (.cells #[.int .u64 a, .int .u64 b, .int .u64 c, .string p, .string m] 27))
  have z0 : (w.alloc (.cells #[.int .u64 a, .int .u64 b, .int .u64 c, .string p, .string m] 27)).cell? ⟨w.heap.size, 0, none⟩ = some (.int .u64 a) := (blk_cell V0 0).trans rfl
  have z1 : (w.alloc (.cells #[.int .u64 a, .int .u64 b, .int .u64 c, .string p, .string m] 27)).cell? ⟨w.heap.size, 1, none⟩ = some (.int .u64 b) := (blk_cell V0 1).trans rfl
  have z2 : (w.alloc (.cells #[.int .u64 a, .int .u64 b, .int .u64 c, .string p, .string m] 27)).cell? ⟨w.heap.size, 2, none⟩ = some (.int .u64 c) := (blk_cell V0 2).trans rfl
  have z3 : (w.alloc (.cells #[.int .u64 a, .int .u64 b, .int .u64 c, .string p, .string m] 27)).cell? ⟨w.heap.size, 3, none⟩ = some (.string p) := (blk_cell V0 3).trans rfl
  have z4 : (w.alloc (.cells #[.int .u64 a, .int .u64 b, .int .u64 c, .string p, .string m] 27)).cell? ⟨w.heap.size, 4, none⟩ = some (.string m) := (blk_cell V0 4).trans rfl
  replace V0 := Aside0.mk V0
  clear hr0 hc0 hr1 hc1
  have HA := Aside0.mk hA
  have HB := Aside0.mk hB
  have HV := Aside0.mk hV
  clear hA hB hV
  go_enter Tryd.func17, Tryd.ntmps17
  go_wp2_with (first | (first | (go_at_call 68; clear z0 z1 z2 z3 z4; refine (laws_zzFits11.calls k A0 c0 l0 _ _ (Kd.C_below HR0.out B0.out) HC0.out HA.out).mono ?_; rintro e w1 ⟨rfl, hb⟩; have B1 : Aside0 (Below w.heap.size w w1) := Aside0.mk (chain B0.out hb); have V1 := (hb.block _ (blk_lt V0.out)).trans V0.out; have z0 : w1.cell? ⟨w.heap.size, 0, none⟩ = some (.int .u64 a) := (blk_cell V1 0).trans rfl; have z1 : w1.cell? ⟨w.heap.size, 1, none⟩ = some (.int .u64 b) := (blk_cell V1 1).trans rfl; have z2 : w1.cell? ⟨w.heap.size, 2, none⟩ = some (.int .u64 c) := (blk_cell V1 2).trans rfl; have z3 : w1.cell? ⟨w.heap.size, 3, none⟩ = some (.string p) := (blk_cell V1 3).trans rfl; have z4 : w1.cell? ⟨w.heap.size, 4, none⟩ = some (.string m) := (blk_cell V1 4).trans rfl; replace V1 := Aside0.mk V1; clear hb HA) | (go_at_call 68; clear z0 z1 z2 z3 z4; refine (laws_zzFits11.calls k A1 c1 l1 _ _ (Kd.C_below HR1.out B1.out) HC1.out HB.out).mono ?_; rintro e w2 ⟨rfl, hb⟩; have B2 : Aside0 (Below w.heap.size w w2) := Aside0.mk (chain B1.out hb); have V2 := (hb.block _ (blk_lt V1.out)).trans V1.out; have z0 : w2.cell? ⟨w.heap.size, 0, none⟩ = some (.int .u64 a) := (blk_cell V2 0).trans rfl; have z1 : w2.cell? ⟨w.heap.size, 1, none⟩ = some (.int .u64 b) := (blk_cell V2 1).trans rfl; have z2 : w2.cell? ⟨w.heap.size, 2, none⟩ = some (.int .u64 c) := (blk_cell V2 2).trans rfl; have z3 : w2.cell? ⟨w.heap.size, 3, none⟩ = some (.string p) := (blk_cell V2 3).trans rfl; have z4 : w2.cell? ⟨w.heap.size, 4, none⟩ = some (.string m) := (blk_cell V2 4).trans rfl; replace V2 := Aside0.mk V2; clear hb HB)) | (go_at_call 24; clear z0 z1 z2 z3 z4; refine (laws_zzFits14.calls _ _ _ _ _ _ _ HV.out).mono ?_; rintro e w3 ⟨rfl, hb⟩; have B3 : Aside0 (Below w.heap.size w w3) := Aside0.mk (chain B2.out hb); have V3 := (hb.block _ (blk_lt V2.out)).trans V2.out; have z0 : w3.cell? ⟨w.heap.size, 0, none⟩ = some (.int .u64 a) := (blk_cell V3 0).trans rfl; have z1 : w3.cell? ⟨w.heap.size, 1, none⟩ = some (.int .u64 b) := (blk_cell V3 1).trans rfl; have z2 : w3.cell? ⟨w.heap.size, 2, none⟩ = some (.int .u64 c) := (blk_cell V3 2).trans rfl; have z3 : w3.cell? ⟨w.heap.size, 3, none⟩ = some (.string p) := (blk_cell V3 3).trans rfl; have z4 : w3.cell? ⟨w.heap.size, 4, none⟩ = some (.string m) := (blk_cell V3 4).trans rfl; replace V3 := Aside0.mk V3; clear hb))
  go_ret
  exact ⟨rfl, B3.out⟩
set_option maxRecDepth 100000 in
set_option maxHeartbeats 4000000 in
theorem either_bad3 (k : Nat) (A0 : Option Addr) (c0 : Nat) (l0 : List (List S54)) (A1 : Option Addr) (c1 : Nat) (l1 : List (List S54)) (a b c : Int) (p m : ByteArray) (pre : Bool) (w : World) (hr0 : Kd.C (Kd.slice 54 k54) w A0 l0.length l0) (hc0 : l0.length ≤ c0) (hr1 : Kd.C (Kd.slice 54 k54) w A1 l1.length l1) (hc1 : l1.length ≤ c1) (hA : laws_zzFits11.f k l0 = some true) (hB : laws_zzFits11.f k l1 = some true) (hV : laws_zzFits14.f a b c p m = some true) (hC : laws_scGood.f k l0 = some false) :
    Calls Tryd.prog 17 #[.slice A0 l0.length c0, .slice A1 l1.length c1, .agg #[.int .u64 a, .int .u64 b, .int .u64 c, .string p, .string m], .bool pre] w fun e w' => e = .returned (.bool true) ∧ Below w.heap.size w w' := by
  have hu27 := Tryd.underlying27
  have hu67 := Tryd.underlying67
  have HR0 := Aside0.mk hr0
  have HC0 := Aside0.mk hc0
  have HR1 := Aside0.mk hr1
  have HC1 := Aside0.mk hc1
  have V0 := heap_alloc_new w (.cells #[.int .u64 a, .int .u64 b, .int .u64 c, .string p, .string m] 27)
  have B0 := Aside0.mk (below_new w (.cells #[.int .u64 a, .int .u64 b, .int .u64 c, .string p, .string m] 27))
  have z0 : (w.alloc (.cells #[.int .u64 a, .int .u64 b, .int .u64 c, .string p, .string m] 27)).cell? ⟨w.heap.size, 0, none⟩ = some (.int .u64 a) := (blk_cell V0 0).trans rfl
  have z1 : (w.alloc (.cells #[.int .u64 a, .int .u64 b, .int .u64 c, .string p, .string m] 27)).cell? ⟨w.heap.size, 1, none⟩ = some (.int .u64 b) := (blk_cell V0 1).trans rfl
  have z2 : (w.alloc (.cells #[.int .u64 a, .int .u64 b, .int .u64 c, .string p, .string m] 27)).cell? ⟨w.heap.size, 2, none⟩ = some (.int .u64 c) := (blk_cell V0 2).trans rfl
  have z3 : (w.alloc (.cells #[.int .u64 a, .int .u64 b, .int .u64 c, .string p, .string m] 27)).cell? ⟨w.heap.size, 3, none⟩ = some (.string p) := (blk_cell V0 3).trans rfl
  have z4 : (w.alloc (.cells #[.int .u64 a, .int .u64 b, .int .u64 c, .string p, .string m] 27)).cell? ⟨w.heap.size, 4, none⟩ = some (.string m) := (blk_cell V0 4).trans rfl
  replace V0 := Aside0.mk V0
  clear hr0 hc0 hr1 hc1
  have HA := Aside0.mk hA
  have HB := Aside0.mk hB
  have HV := Aside0.mk hV
  have HC := Aside0.mk hC
  clear hA hB hV hC
  go_enter Tryd.func17, Tryd.ntmps17
  go_wp2_with (first | (first | (go_at_call 68; clear z0 z1 z2 z3 z4; refine (laws_zzFits11.calls k A0 c0 l0 _ _ (Kd.C_below HR0.out B0.out) HC0.out HA.out).mono ?_; rintro e w1 ⟨rfl, hb⟩; have B1 : Aside0 (Below w.heap.size w w1) := Aside0.mk (chain B0.out hb); have V1 := (hb.block _ (blk_lt V0.out)).trans V0.out; have z0 : w1.cell? ⟨w.heap.size, 0, none⟩ = some (.int .u64 a) := (blk_cell V1 0).trans rfl; have z1 : w1.cell? ⟨w.heap.size, 1, none⟩ = some (.int .u64 b) := (blk_cell V1 1).trans rfl; have z2 : w1.cell? ⟨w.heap.size, 2, none⟩ = some (.int .u64 c) := (blk_cell V1 2).trans rfl; have z3 : w1.cell? ⟨w.heap.size, 3, none⟩ = some (.string p) := (blk_cell V1 3).trans rfl; have z4 : w1.cell? ⟨w.heap.size, 4, none⟩ = some (.string m) := (blk_cell V1 4).trans rfl; replace V1 := Aside0.mk V1; clear hb HA) | (go_at_call 68; clear z0 z1 z2 z3 z4; refine (laws_zzFits11.calls k A1 c1 l1 _ _ (Kd.C_below HR1.out B1.out) HC1.out HB.out).mono ?_; rintro e w2 ⟨rfl, hb⟩; have B2 : Aside0 (Below w.heap.size w w2) := Aside0.mk (chain B1.out hb); have V2 := (hb.block _ (blk_lt V1.out)).trans V1.out; have z0 : w2.cell? ⟨w.heap.size, 0, none⟩ = some (.int .u64 a) := (blk_cell V2 0).trans rfl; have z1 : w2.cell? ⟨w.heap.size, 1, none⟩ = some (.int .u64 b) := (blk_cell V2 1).trans rfl; have z2 : w2.cell? ⟨w.heap.size, 2, none⟩ = some (.int .u64 c) := (blk_cell V2 2).trans rfl; have z3 : w2.cell? ⟨w.heap.size, 3, none⟩ = some (.string p) := (blk_cell V2 3).trans rfl; have z4 : w2.cell? ⟨w.heap.size, 4, none⟩ = some (.string m) := (blk_cell V2 4).trans rfl; replace V2 := Aside0.mk V2; clear hb HB)) | (go_at_call 24; clear z0 z1 z2 z3 z4; refine (laws_zzFits14.calls _ _ _ _ _ _ _ HV.out).mono ?_; rintro e w3 ⟨rfl, hb⟩; have B3 : Aside0 (Below w.heap.size w w3) := Aside0.mk (chain B2.out hb); have V3 := (hb.block _ (blk_lt V2.out)).trans V2.out; have z0 : w3.cell? ⟨w.heap.size, 0, none⟩ = some (.int .u64 a) := (blk_cell V3 0).trans rfl; have z1 : w3.cell? ⟨w.heap.size, 1, none⟩ = some (.int .u64 b) := (blk_cell V3 1).trans rfl; have z2 : w3.cell? ⟨w.heap.size, 2, none⟩ = some (.int .u64 c) := (blk_cell V3 2).trans rfl; have z3 : w3.cell? ⟨w.heap.size, 3, none⟩ = some (.string p) := (blk_cell V3 3).trans rfl; have z4 : w3.cell? ⟨w.heap.size, 4, none⟩ = some (.string m) := (blk_cell V3 4).trans rfl; replace V3 := Aside0.mk V3; clear hb) | (first | (go_at_call 69; clear z0 z1 z2 z3 z4; refine (laws_scGood.calls k A0 c0 l0 _ _ (Kd.C_below HR0.out B3.out) HC0.out HC.out).mono ?_; rintro e w4 ⟨rfl, hb⟩; have B4 : Aside0 (Below w.heap.size w w4) := Aside0.mk (chain B3.out hb); have V4 := (hb.block _ (blk_lt V3.out)).trans V3.out; have z0 : w4.cell? ⟨w.heap.size, 0, none⟩ = some (.int .u64 a) := (blk_cell V4 0).trans rfl; have z1 : w4.cell? ⟨w.heap.size, 1, none⟩ = some (.int .u64 b) := (blk_cell V4 1).trans rfl; have z2 : w4.cell? ⟨w.heap.size, 2, none⟩ = some (.int .u64 c) := (blk_cell V4 2).trans rfl; have z3 : w4.cell? ⟨w.heap.size, 3, none⟩ = some (.string p) := (blk_cell V4 3).trans rfl; have z4 : w4.cell? ⟨w.heap.size, 4, none⟩ = some (.string m) := (blk_cell V4 4).trans rfl; replace V4 := Aside0.mk V4; clear hb HC) | (go_at_call 69; clear z0 z1 z2 z3 z4; refine (laws_scGood.calls k A1 c1 l1 _ _ (Kd.C_below HR1.out B4.out) HC1.out HD.out).mono ?_; rintro e w5 ⟨rfl, hb⟩; have B5 : Aside0 (Below w.heap.size w w5) := Aside0.mk (chain B4.out hb); have V5 := (hb.block _ (blk_lt V4.out)).trans V4.out; have z0 : w5.cell? ⟨w.heap.size, 0, none⟩ = some (.int .u64 a) := (blk_cell V5 0).trans rfl; have z1 : w5.cell? ⟨w.heap.size, 1, none⟩ = some (.int .u64 b) := (blk_cell V5 1).trans rfl; have z2 : w5.cell? ⟨w.heap.size, 2, none⟩ = some (.int .u64 c) := (blk_cell V5 2).trans rfl; have z3 : w5.cell? ⟨w.heap.size, 3, none⟩ = some (.string p) := (blk_cell V5 3).trans rfl; have z4 : w5.cell? ⟨w.heap.size, 4, none⟩ = some (.string m) := (blk_cell V5 4).trans rfl; replace V5 := Aside0.mk V5; clear hb HD)))
  go_ret
  exact ⟨rfl, B4.out⟩
set_option maxRecDepth 100000 in
set_option maxHeartbeats 4000000 in
theorem either_bad4 (k : Nat) (A0 : Option Addr) (c0 : Nat) (l0 : List (List S54)) (A1 : Option Addr) (c1 : Nat) (l1 : List (List S54)) (a b c : Int) (p m : ByteArray) (pre : Bool) (w : World) (hr0 : Kd.C (Kd.slice 54 k54) w A0 l0.length l0) (hc0 : l0.length ≤ c0) (hr1 : Kd.C (Kd.slice 54 k54) w A1 l1.length l1) (hc1 : l1.length ≤ c1) (hA : laws_zzFits11.f k l0 = some true) (hB : laws_zzFits11.f k l1 = some true) (hV : laws_zzFits14.f a b c p m = some true) (hC : laws_scGood.f k l0 = some true) (hD : laws_scGood.f k l1 = some false) :
    Calls Tryd.prog 17 #[.slice A0 l0.length c0, .slice A1 l1.length c1, .agg #[.int .u64 a, .int .u64 b, .int .u64 c, .string p, .string m], .bool pre] w fun e w' => e = .returned (.bool true) ∧ Below w.heap.size w w' := by
  have hu27 := Tryd.underlying27
  have hu67 := Tryd.underlying67
  have HR0 := Aside0.mk hr0
  have HC0 := Aside0.mk hc0
  have HR1 := Aside0.mk hr1
  have HC1 := Aside0.mk hc1
  have V0 := heap_alloc_new w (.cells #[.int .u64 a, .int .u64 b, .int .u64 c, .string p, .string m] 27)
  have B0 := Aside0.mk (below_new w (.cells #[.int .u64 a, .int .u64 b, .int .u64 c, .string p, .string m] 27))
  have z0 : (w.alloc (.cells #[.int .u64 a, .int .u64 b, .int .u64 c, .string p, .string m] 27)).cell? ⟨w.heap.size, 0, none⟩ = some (.int .u64 a) := (blk_cell V0 0).trans rfl
  have z1 : (w.alloc (.cells #[.int .u64 a, .int .u64 b, .int .u64 c, .string p, .string m] 27)).cell? ⟨w.heap.size, 1, none⟩ = some (.int .u64 b) := (blk_cell V0 1).trans rfl
  have z2 : (w.alloc (.cells #[.int .u64 a, .int .u64 b, .int .u64 c, .string p, .string m] 27)).cell? ⟨w.heap.size, 2, none⟩ = some (.int .u64 c) := (blk_cell V0 2).trans rfl
  have z3 : (w.alloc (.cells #[.int .u64 a, .int .u64 b, .int .u64 c, .string p, .string m] 27)).cell? ⟨w.heap.size, 3, none⟩ = some (.string p) := (blk_cell V0 3).trans rfl
  have z4 : (w.alloc (.cells #[.int .u64 a, .int .u64 b, .int .u64 c, .string p, .string m] 27)).cell? ⟨w.heap.size, 4, none⟩ = some (.string m) := (blk_cell V0 4).trans rfl
  replace V0 := Aside0.mk V0
  clear hr0 hc0 hr1 hc1
  have HA := Aside0.mk hA
  have HB := Aside0.mk hB
  have HV := Aside0.mk hV
  have HC := Aside0.mk hC
  have HD := Aside0.mk hD
  clear hA hB hV hC hD
  go_enter Tryd.func17, Tryd.ntmps17
  go_wp2_with (first | (first | (go_at_call 68; clear z0 z1 z2 z3 z4; refine (laws_zzFits11.calls k A0 c0 l0 _ _ (Kd.C_below HR0.out B0.out) HC0.out HA.out).mono ?_; rintro e w1 ⟨rfl, hb⟩; have B1 : Aside0 (Below w.heap.size w w1) := Aside0.mk (chain B0.out hb); have V1 := (hb.block _ (blk_lt V0.out)).trans V0.out; have z0 : w1.cell? ⟨w.heap.size, 0, none⟩ = some (.int .u64 a) := (blk_cell V1 0).trans rfl; have z1 : w1.cell? ⟨w.heap.size, 1, none⟩ = some (.int .u64 b) := (blk_cell V1 1).trans rfl; have z2 : w1.cell? ⟨w.heap.size, 2, none⟩ = some (.int .u64 c) := (blk_cell V1 2).trans rfl; have z3 : w1.cell? ⟨w.heap.size, 3, none⟩ = some (.string p) := (blk_cell V1 3).trans rfl; have z4 : w1.cell? ⟨w.heap.size, 4, none⟩ = some (.string m) := (blk_cell V1 4).trans rfl; replace V1 := Aside0.mk V1; clear hb HA) | (go_at_call 68; clear z0 z1 z2 z3 z4; refine (laws_zzFits11.calls k A1 c1 l1 _ _ (Kd.C_below HR1.out B1.out) HC1.out HB.out).mono ?_; rintro e w2 ⟨rfl, hb⟩; have B2 : Aside0 (Below w.heap.size w w2) := Aside0.mk (chain B1.out hb); have V2 := (hb.block _ (blk_lt V1.out)).trans V1.out; have z0 : w2.cell? ⟨w.heap.size, 0, none⟩ = some (.int .u64 a) := (blk_cell V2 0).trans rfl; have z1 : w2.cell? ⟨w.heap.size, 1, none⟩ = some (.int .u64 b) := (blk_cell V2 1).trans rfl; have z2 : w2.cell? ⟨w.heap.size, 2, none⟩ = some (.int .u64 c) := (blk_cell V2 2).trans rfl; have z3 : w2.cell? ⟨w.heap.size, 3, none⟩ = some (.string p) := (blk_cell V2 3).trans rfl; have z4 : w2.cell? ⟨w.heap.size, 4, none⟩ = some (.string m) := (blk_cell V2 4).trans rfl; replace V2 := Aside0.mk V2; clear hb HB)) | (go_at_call 24; clear z0 z1 z2 z3 z4; refine (laws_zzFits14.calls _ _ _ _ _ _ _ HV.out).mono ?_; rintro e w3 ⟨rfl, hb⟩; have B3 : Aside0 (Below w.heap.size w w3) := Aside0.mk (chain B2.out hb); have V3 := (hb.block _ (blk_lt V2.out)).trans V2.out; have z0 : w3.cell? ⟨w.heap.size, 0, none⟩ = some (.int .u64 a) := (blk_cell V3 0).trans rfl; have z1 : w3.cell? ⟨w.heap.size, 1, none⟩ = some (.int .u64 b) := (blk_cell V3 1).trans rfl; have z2 : w3.cell? ⟨w.heap.size, 2, none⟩ = some (.int .u64 c) := (blk_cell V3 2).trans rfl; have z3 : w3.cell? ⟨w.heap.size, 3, none⟩ = some (.string p) := (blk_cell V3 3).trans rfl; have z4 : w3.cell? ⟨w.heap.size, 4, none⟩ = some (.string m) := (blk_cell V3 4).trans rfl; replace V3 := Aside0.mk V3; clear hb) | (first | (go_at_call 69; clear z0 z1 z2 z3 z4; refine (laws_scGood.calls k A0 c0 l0 _ _ (Kd.C_below HR0.out B3.out) HC0.out HC.out).mono ?_; rintro e w4 ⟨rfl, hb⟩; have B4 : Aside0 (Below w.heap.size w w4) := Aside0.mk (chain B3.out hb); have V4 := (hb.block _ (blk_lt V3.out)).trans V3.out; have z0 : w4.cell? ⟨w.heap.size, 0, none⟩ = some (.int .u64 a) := (blk_cell V4 0).trans rfl; have z1 : w4.cell? ⟨w.heap.size, 1, none⟩ = some (.int .u64 b) := (blk_cell V4 1).trans rfl; have z2 : w4.cell? ⟨w.heap.size, 2, none⟩ = some (.int .u64 c) := (blk_cell V4 2).trans rfl; have z3 : w4.cell? ⟨w.heap.size, 3, none⟩ = some (.string p) := (blk_cell V4 3).trans rfl; have z4 : w4.cell? ⟨w.heap.size, 4, none⟩ = some (.string m) := (blk_cell V4 4).trans rfl; replace V4 := Aside0.mk V4; clear hb HC) | (go_at_call 69; clear z0 z1 z2 z3 z4; refine (laws_scGood.calls k A1 c1 l1 _ _ (Kd.C_below HR1.out B4.out) HC1.out HD.out).mono ?_; rintro e w5 ⟨rfl, hb⟩; have B5 : Aside0 (Below w.heap.size w w5) := Aside0.mk (chain B4.out hb); have V5 := (hb.block _ (blk_lt V4.out)).trans V4.out; have z0 : w5.cell? ⟨w.heap.size, 0, none⟩ = some (.int .u64 a) := (blk_cell V5 0).trans rfl; have z1 : w5.cell? ⟨w.heap.size, 1, none⟩ = some (.int .u64 b) := (blk_cell V5 1).trans rfl; have z2 : w5.cell? ⟨w.heap.size, 2, none⟩ = some (.int .u64 c) := (blk_cell V5 2).trans rfl; have z3 : w5.cell? ⟨w.heap.size, 3, none⟩ = some (.string p) := (blk_cell V5 3).trans rfl; have z4 : w5.cell? ⟨w.heap.size, 4, none⟩ = some (.string m) := (blk_cell V5 4).trans rfl; replace V5 := Aside0.mk V5; clear hb HD)))
  go_ret
  exact ⟨rfl, B5.out⟩
set_option maxRecDepth 100000 in
set_option maxHeartbeats 4000000 in
theorem either_bad5 (k : Nat) (A0 : Option Addr) (c0 : Nat) (l0 : List (List S54)) (A1 : Option Addr) (c1 : Nat) (l1 : List (List S54)) (a b c : Int) (p m : ByteArray) (pre : Bool) (w : World) (hr0 : Kd.C (Kd.slice 54 k54) w A0 l0.length l0) (hc0 : l0.length ≤ c0) (hr1 : Kd.C (Kd.slice 54 k54) w A1 l1.length l1) (hc1 : l1.length ≤ c1) (hA : laws_zzFits11.f k l0 = some true) (hB : laws_zzFits11.f k l1 = some true) (hV : laws_zzFits14.f a b c p m = some true) (hC : laws_scGood.f k l0 = some true) (hD : laws_scGood.f k l1 = some true) (hG : laws_svGood.f k [(⟨a, b, c, p, m⟩ : S27)] = some false) :
    Calls Tryd.prog 17 #[.slice A0 l0.length c0, .slice A1 l1.length c1, .agg #[.int .u64 a, .int .u64 b, .int .u64 c, .string p, .string m], .bool pre] w fun e w' => e = .returned (.bool true) ∧ Below w.heap.size w w' := by
  have hu27 := Tryd.underlying27
  have hu67 := Tryd.underlying67
  have HR0 := Aside0.mk hr0
  have HC0 := Aside0.mk hc0
  have HR1 := Aside0.mk hr1
  have HC1 := Aside0.mk hc1
  have V0 := heap_alloc_new w (.cells #[.int .u64 a, .int .u64 b, .int .u64 c, .string p, .string m] 27)
  have B0 := Aside0.mk (below_new w (.cells #[.int .u64 a, .int .u64 b, .int .u64 c, .string p, .string m] 27))
  have z0 : (w.alloc (.cells #[.int .u64 a, .int .u64 b, .int .u64 c, .string p, .string m] 27)).cell? ⟨w.heap.size, 0, none⟩ = some (.int .u64 a) := (blk_cell V0 0).trans rfl
  have z1 : (w.alloc (.cells #[.int .u64 a, .int .u64 b, .int .u64 c, .string p, .string m] 27)).cell? ⟨w.heap.size, 1, none⟩ = some (.int .u64 b) := (blk_cell V0 1).trans rfl
  have z2 : (w.alloc (.cells #[.int .u64 a, .int .u64 b, .int .u64 c, .string p, .string m] 27)).cell? ⟨w.heap.size, 2, none⟩ = some (.int .u64 c) := (blk_cell V0 2).trans rfl
  have z3 : (w.alloc (.cells #[.int .u64 a, .int .u64 b, .int .u64 c, .string p, .string m] 27)).cell? ⟨w.heap.size, 3, none⟩ = some (.string p) := (blk_cell V0 3).trans rfl
  have z4 : (w.alloc (.cells #[.int .u64 a, .int .u64 b, .int .u64 c, .string p, .string m] 27)).cell? ⟨w.heap.size, 4, none⟩ = some (.string m) := (blk_cell V0 4).trans rfl
  replace V0 := Aside0.mk V0
  clear hr0 hc0 hr1 hc1
  have HA := Aside0.mk hA
  have HB := Aside0.mk hB
  have HV := Aside0.mk hV
  have HC := Aside0.mk hC
  have HD := Aside0.mk hD
  have HG := Aside0.mk hG
  clear hA hB hV hC hD hG
  go_enter Tryd.func17, Tryd.ntmps17
  go_wp2_with (first | (first | (go_at_call 68; clear z0 z1 z2 z3 z4; refine (laws_zzFits11.calls k A0 c0 l0 _ _ (Kd.C_below HR0.out B0.out) HC0.out HA.out).mono ?_; rintro e w1 ⟨rfl, hb⟩; have B1 : Aside0 (Below w.heap.size w w1) := Aside0.mk (chain B0.out hb); have V1 := (hb.block _ (blk_lt V0.out)).trans V0.out; have z0 : w1.cell? ⟨w.heap.size, 0, none⟩ = some (.int .u64 a) := (blk_cell V1 0).trans rfl; have z1 : w1.cell? ⟨w.heap.size, 1, none⟩ = some (.int .u64 b) := (blk_cell V1 1).trans rfl; have z2 : w1.cell? ⟨w.heap.size, 2, none⟩ = some (.int .u64 c) := (blk_cell V1 2).trans rfl; have z3 : w1.cell? ⟨w.heap.size, 3, none⟩ = some (.string p) := (blk_cell V1 3).trans rfl; have z4 : w1.cell? ⟨w.heap.size, 4, none⟩ = some (.string m) := (blk_cell V1 4).trans rfl; replace V1 := Aside0.mk V1; clear hb HA) | (go_at_call 68; clear z0 z1 z2 z3 z4; refine (laws_zzFits11.calls k A1 c1 l1 _ _ (Kd.C_below HR1.out B1.out) HC1.out HB.out).mono ?_; rintro e w2 ⟨rfl, hb⟩; have B2 : Aside0 (Below w.heap.size w w2) := Aside0.mk (chain B1.out hb); have V2 := (hb.block _ (blk_lt V1.out)).trans V1.out; have z0 : w2.cell? ⟨w.heap.size, 0, none⟩ = some (.int .u64 a) := (blk_cell V2 0).trans rfl; have z1 : w2.cell? ⟨w.heap.size, 1, none⟩ = some (.int .u64 b) := (blk_cell V2 1).trans rfl; have z2 : w2.cell? ⟨w.heap.size, 2, none⟩ = some (.int .u64 c) := (blk_cell V2 2).trans rfl; have z3 : w2.cell? ⟨w.heap.size, 3, none⟩ = some (.string p) := (blk_cell V2 3).trans rfl; have z4 : w2.cell? ⟨w.heap.size, 4, none⟩ = some (.string m) := (blk_cell V2 4).trans rfl; replace V2 := Aside0.mk V2; clear hb HB)) | (go_at_call 24; clear z0 z1 z2 z3 z4; refine (laws_zzFits14.calls _ _ _ _ _ _ _ HV.out).mono ?_; rintro e w3 ⟨rfl, hb⟩; have B3 : Aside0 (Below w.heap.size w w3) := Aside0.mk (chain B2.out hb); have V3 := (hb.block _ (blk_lt V2.out)).trans V2.out; have z0 : w3.cell? ⟨w.heap.size, 0, none⟩ = some (.int .u64 a) := (blk_cell V3 0).trans rfl; have z1 : w3.cell? ⟨w.heap.size, 1, none⟩ = some (.int .u64 b) := (blk_cell V3 1).trans rfl; have z2 : w3.cell? ⟨w.heap.size, 2, none⟩ = some (.int .u64 c) := (blk_cell V3 2).trans rfl; have z3 : w3.cell? ⟨w.heap.size, 3, none⟩ = some (.string p) := (blk_cell V3 3).trans rfl; have z4 : w3.cell? ⟨w.heap.size, 4, none⟩ = some (.string m) := (blk_cell V3 4).trans rfl; replace V3 := Aside0.mk V3; clear hb) | (first | (go_at_call 69; clear z0 z1 z2 z3 z4; refine (laws_scGood.calls k A0 c0 l0 _ _ (Kd.C_below HR0.out B3.out) HC0.out HC.out).mono ?_; rintro e w4 ⟨rfl, hb⟩; have B4 : Aside0 (Below w.heap.size w w4) := Aside0.mk (chain B3.out hb); have V4 := (hb.block _ (blk_lt V3.out)).trans V3.out; have z0 : w4.cell? ⟨w.heap.size, 0, none⟩ = some (.int .u64 a) := (blk_cell V4 0).trans rfl; have z1 : w4.cell? ⟨w.heap.size, 1, none⟩ = some (.int .u64 b) := (blk_cell V4 1).trans rfl; have z2 : w4.cell? ⟨w.heap.size, 2, none⟩ = some (.int .u64 c) := (blk_cell V4 2).trans rfl; have z3 : w4.cell? ⟨w.heap.size, 3, none⟩ = some (.string p) := (blk_cell V4 3).trans rfl; have z4 : w4.cell? ⟨w.heap.size, 4, none⟩ = some (.string m) := (blk_cell V4 4).trans rfl; replace V4 := Aside0.mk V4; clear hb HC) | (go_at_call 69; clear z0 z1 z2 z3 z4; refine (laws_scGood.calls k A1 c1 l1 _ _ (Kd.C_below HR1.out B4.out) HC1.out HD.out).mono ?_; rintro e w5 ⟨rfl, hb⟩; have B5 : Aside0 (Below w.heap.size w w5) := Aside0.mk (chain B4.out hb); have V5 := (hb.block _ (blk_lt V4.out)).trans V4.out; have z0 : w5.cell? ⟨w.heap.size, 0, none⟩ = some (.int .u64 a) := (blk_cell V5 0).trans rfl; have z1 : w5.cell? ⟨w.heap.size, 1, none⟩ = some (.int .u64 b) := (blk_cell V5 1).trans rfl; have z2 : w5.cell? ⟨w.heap.size, 2, none⟩ = some (.int .u64 c) := (blk_cell V5 2).trans rfl; have z3 : w5.cell? ⟨w.heap.size, 3, none⟩ = some (.string p) := (blk_cell V5 3).trans rfl; have z4 : w5.cell? ⟨w.heap.size, 4, none⟩ = some (.string m) := (blk_cell V5 4).trans rfl; replace V5 := Aside0.mk V5; clear hb HD)) | (go_at_call 29; clear z0 z1 z2 z3 z4; refine (laws_svGood.calls k (some ⟨w5.heap.size, 0, none⟩) 1 [(⟨a, b, c, p, m⟩ : S27)] _ (w5.alloc (.cells #[.int .u64 a, .int .u64 b, .int .u64 c, .string p, .string m] 27)) (C_one27 w5 ⟨a, b, c, p, m⟩) (Nat.le_refl 1) HG.out).mono ?_; rintro e w6 ⟨rfl, hb⟩; have B6 : Aside0 (Below w.heap.size w w6) := Aside0.mk (chain (chain B5.out (below_new w5 (.cells #[.int .u64 a, .int .u64 b, .int .u64 c, .string p, .string m] 27))) hb); have V6 := (hb.block _ (Nat.lt_of_lt_of_le (blk_lt V5.out) (below_new w5 (.cells #[.int .u64 a, .int .u64 b, .int .u64 c, .string p, .string m] 27)).size)).trans (((below_new w5 (.cells #[.int .u64 a, .int .u64 b, .int .u64 c, .string p, .string m] 27)).block _ (blk_lt V5.out)).trans V5.out); have z0 : w6.cell? ⟨w.heap.size, 0, none⟩ = some (.int .u64 a) := (blk_cell V6 0).trans rfl; have z1 : w6.cell? ⟨w.heap.size, 1, none⟩ = some (.int .u64 b) := (blk_cell V6 1).trans rfl; have z2 : w6.cell? ⟨w.heap.size, 2, none⟩ = some (.int .u64 c) := (blk_cell V6 2).trans rfl; have z3 : w6.cell? ⟨w.heap.size, 3, none⟩ = some (.string p) := (blk_cell V6 3).trans rfl; have z4 : w6.cell? ⟨w.heap.size, 4, none⟩ = some (.string m) := (blk_cell V6 4).trans rfl; replace V6 := Aside0.mk V6; clear hb))
  go_ret
  exact ⟨rfl, B6.out⟩
end Go.Proofs.YtgenbmhmcnaiiaaDoor.H

/- Lists of terms joined: rows of elements that came in; what is told while the region that joins them runs in any order. -/
namespace Go.Proofs.YtgenbmhmcnaiiaaDoor.H
open Go.RowKit Go.Proofs.YtgenbmhmcnaiiaaDoor.PG Go.Proofs.YtgenbmhmcnaiiaaDoorW.PrintWords Go.Proofs.YtgenbmhmcnaiiaaDoorW.PrintLast Go.Proofs.YtgenbmhmcnaiiaaDoorW.PrintMore
set_option linter.unusedVariables false
set_option linter.unusedSimpArgs false

theorem info69 : (Tryd.prog.info? 69).map (fun i => (i.zero, i.size, i.bytes)) = some (some (.slice none 0 0), 1, 24) := by kernel_rfl
/-- A list of terms as an element: its terms lie as they did in the world W, or it is one term at g. -/
def kJ (W : World) (g : Nat) (t : S54) : Kd (List S54) where
  sz := 1
  E := []
  K _ x cs := ∃ A c, cs = [.slice A x.length c] ∧ x.length ≤ c ∧ (Kd.C k54 W A x.length x ∨ (A = some ⟨g, 0, none⟩ ∧ x = [t]))
  M _ _ _ x cs := ∃ A c, cs = [.slice A x.length c] ∧ x.length ≤ c ∧ (Kd.C k54 W A x.length x ∨ (A = some ⟨g, 0, none⟩ ∧ x = [t]))
  K_len := by rintro w x cs ⟨A, c, rfl, _⟩; rfl
  K_one := by
    rintro w x cs ⟨A, c, rfl, _⟩ u hu
    rw [List.mem_singleton.1 hu]
    rfl
  K_below := fun _ h => h
  K_of_M := fun h => h
  M_mono := fun _ h => h
  M_bound := fun h => h
  M_move := fun _ h => h
  M_lower := fun _ h => h
def kI (W : World) : Kd (List S54) where
  sz := 1
  E := []
  K _ x cs := ∃ A c, cs = [.slice A x.length c] ∧ x.length ≤ c ∧ Kd.C k54 W A x.length x
  M _ _ _ x cs := ∃ A c, cs = [.slice A x.length c] ∧ x.length ≤ c ∧ Kd.C k54 W A x.length x
  K_len := by rintro w x cs ⟨A, c, rfl, _⟩; rfl
  K_one := by
    rintro w x cs ⟨A, c, rfl, _⟩ u hu
    rw [List.mem_singleton.1 hu]
    rfl
  K_below := fun _ h => h
  K_of_M := fun h => h
  M_mono := fun _ h => h
  M_bound := fun h => h
  M_move := fun _ h => h
  M_lower := fun _ h => h
theorem kJ_of_kI {W w : World} {base : Nat} {v : Value} {xs : List (List S54)} (g : Nat) (t : S54) (h : Kd.R (kI W) 69 w base (fun _ => True) v xs) : Kd.R (kJ W g t) 69 w base (fun _ => True) v xs := by
  obtain ⟨h0, inner, ho, hr⟩ := h
  exact ⟨h0, inner, ho, hr.imp_ (fun p c hp => by obtain ⟨A, n, e, hl, hC⟩ := hp; exact ⟨A, n, e, hl, .inl hC⟩)⟩
theorem R_empty69 (W w : World) : Kd.R (kI W) 69 (w.alloc (.cells #[] 69)) w.heap.size (fun _ => True) (.slice (some ⟨w.heap.size, 0, none⟩) 0 0) [] := by
  refine ⟨fun _ _ => trivial, [], ?_, ?_⟩
  · have h2 := World.ownsRow_lit (base := w.heap.size) (e := 69) (size := 1) w #[] 0 (Nat.le_refl _) (by decide) (by simp)
    show World.ownsRow _ _ 69 1 _ _ _
    simpa using h2
  · exact Reps.none _ _
/-- A row of elements that came in, as a row of lists in a later world. -/
theorem C_slice_of {W w : World} {A : Option Addr} {n : Nat} {xs : List (List S54)} (h : Kd.C (kI W) w A n xs) (hb : Below W.heap.size W w) : Kd.C (Kd.slice 54 k54) w A n xs :=
  ReadsRow.imp_ h (Below.refl _ _) (fun p c hp => by obtain ⟨A, n, e, hl, hC⟩ := hp; exact ⟨A, n, e, hl, Kd.C_below hC hb⟩)
theorem C_same54 {w w' : World} {A : Option Addr} {n : Nat} {xs : List S54} (h : Kd.C k54 w A n xs) (hs : ∀ ad, A = some ad → w'.heap[ad.block]? = w.heap[ad.block]?) : Kd.C k54 w' A n xs := by
  refine ⟨h.1, h.2.1, fun h0 => ?_⟩
  obtain ⟨ad, e, h3⟩ := h.2.2 h0
  refine ⟨ad, e, fun j p hp => ?_⟩
  obtain ⟨c, hc1, hc2, hc3⟩ := h3 j p hp
  refine ⟨c, hc1, ?_, fun i u hu => cell_same (hc3 i u hu) ?_⟩
  · have := k54_open hc2
    subst this
    exact k54_mk _ _
  · rw [add_block]
    exact hs ad e
theorem C_one54 (w : World) (x : S54) : Kd.C k54 (w.alloc (.cells #[.int .i64 x.f0, .int .i64 x.f1, .int .u64 x.f2, .int .u64 x.f3, .int .u64 x.f4, .string x.f5] 54)) (some ⟨w.heap.size, 0, none⟩) 1 [x] := by
  have hR : Kd.R k54 54 (w.alloc (.cells #[.int .i64 x.f0, .int .i64 x.f1, .int .u64 x.f2, .int .u64 x.f3, .int .u64 x.f4, .string x.f5] 54)) w.heap.size (fun _ => True) (.slice (some ⟨w.heap.size, 0, none⟩) 1 1) [x] := by
    refine ⟨fun _ _ => trivial, [.int .i64 x.f0, .int .i64 x.f1, .int .u64 x.f2, .int .u64 x.f3, .int .u64 x.f4, .string x.f5], ?_, ?_⟩
    · have h2 := World.ownsRow_lit (base := w.heap.size) (e := 54) (size := 6) w #[.int .i64 x.f0, .int .i64 x.f1, .int .u64 x.f2, .int .u64 x.f3, .int .u64 x.f4, .string x.f5] 1 (Nat.le_refl _) (by decide) (by simp)
      show World.ownsRow _ _ 54 6 _ _ _
      simpa using h2
    · exact Reps.c6 (k54_mkM _ _ _ x) (Reps.none _ _)
  obtain ⟨A, c, e, _, h⟩ := Kd.R_reads hR
  cases e
  exact h
theorem own_lt69 {W w : World} {base : Nat} {v : Value} {xs : List (List S54)} (h : Kd.R (kI W) 69 w base (fun _ => True) v xs) {k : Nat} (hk : v.ownBlock = some k) : base ≤ k ∧ k < w.heap.size := by
  obtain ⟨inner, ho⟩ := Kd.R_own h
  exact ⟨own_base ho k hk, own_lt ho k hk⟩

section
variable {P : Program} {o : Oper} {a : Act} {Q : Exit → Act → World → Prop} {Kc : Act → World → Prop} {α : Type}
/-- append(v, ys...) as one operation of a region. -/
theorem rows_wp (d : Kd α) {Rr : α → List Value → Prop} {w0 W : World} (base : Nat) (hgd : o.guard = none) (s x : Operand) (t e : TypeId) (z : Value) (bytes : Nat)
    (ho : o.op = .call { callee := .builtin .append, args := #[s, x], argTypes := #[t, t] })
    (ht : P.underlying t = some (.slice e)) (hinfo : (P.info? e).map (fun i => (i.zero, i.size, i.bytes)) = some (some z, d.sz, bytes)) (hz : z.cells.size = d.sz) (hs0 : 0 < d.sz) (hb0 : 0 < bytes)
    (v : Value) (xs ys : List α) (A : Option Addr) (m c : Nat) (ok okp : Nat → Prop) (hs : a.eval s = v) (hx : a.eval x = .slice A m c)
    (HO : d.R e W base ok v xs) (HR : ReadsRow Rr d.sz W A m ys) (hKM : ∀ x cs, Rr x cs → d.M W base okp x cs) (hokp : ∀ k, okp k → ok k ∧ some k ≠ v.ownBlock) (hfresh : ∀ k, W.heap.size ≤ k → ok k)
    (HB : Below base w0 W) (hbase : base ≤ W.heap.size) (hl : (xs.length + m) * bytes ≤ 140737488355328)
    (h : ∀ v1 w1, d.R e w1 base ok v1 (xs ++ ys) → Below base w0 w1 → W.grownBy w1 v.ownBlock → (v1.ownBlock = v.ownBlock ∨ ∃ b, v1.ownBlock = some b ∧ W.heap.size ≤ b) → Kc (a.put o.dst v1) w1) : Oper.wp P o a W Kc Q := by
  have hw : Region.wanted o (yielded #[] a.tmps) = true := by simp [Region.wanted, hgd]
  have hh := Kd.R_append_rows_step (P := P) (Q := Q) (ops := #[]) d base hw s x t e z bytes ho ht hinfo hz hs0 hb0 v xs ys A m c ok okp hs hx HO HR hKM hokp hfresh HB hbase hl h
  rw [if_pos hw] at hh
  exact hh
end

structure EInv (w W0 : World) (le : List (List S54)) (t : S54) (L : Nat → Bool) (x : Act) (wx : World) : Prop where
  size : 72 ≤ x.tmps.size
  ent : Below W0.heap.size W0 wx
  v0 : L 0 = true → L 2 = false → Kd.R (kI w) 69 wx W0.heap.size (fun _ => True) (x.eval (.tmp 43)) []
  v2 : L 2 = true → L 7 = false → Kd.R (kI w) 69 wx W0.heap.size (fun _ => True) (x.eval (.tmp 45)) le
  v5 : L 5 = true → L 7 = false → ∃ g, x.eval (.tmp 48) = .slice (some ⟨g, 0, none⟩) 1 1 ∧ Kd.C k54 wx (some ⟨g, 0, none⟩) 1 [t] ∧ some g ≠ (x.eval (.tmp 45)).ownBlock ∧ g < wx.heap.size
  v6 : L 6 = true → L 7 = false → ∃ g g', x.eval (.tmp 48) = .slice (some ⟨g, 0, none⟩) 1 1 ∧ x.eval (.tmp 49) = .slice (some ⟨g', 0, none⟩) 1 1 ∧ wx.heap[g']? = some (.cells #[.slice (some ⟨g, 0, none⟩) 1 1] 69 (0, 0))
  v7 : L 7 = true → ∃ A c, x.eval (.tmp 50) = .slice A (le ++ [[t]]).length c ∧ (le ++ [[t]]).length ≤ c ∧ Kd.C (Kd.slice 54 k54) wx A (le ++ [[t]]).length (le ++ [[t]])
  v8 : L 8 = true → x.eval (.tmp 10) = x.eval (.tmp 50)
section
variable {w W0 wx : World} {le : List (List S54)} {t : S54} {L : Nat → Bool} {x : Act}
theorem EInv.init {x : Act} (hs : 72 ≤ x.tmps.size) : EInv w W0 le t (fun _ => false) x W0 :=
  ⟨hs, Below.refl _ _, fun h => by simp at h, fun h => by simp at h, fun h => by simp at h, fun h => by simp at h, fun h => by simp at h, fun h => by simp at h⟩
theorem EInv.step (h : EInv w W0 le t L x wx) {w' : World} (hb : Below wx.heap.size wx w') {i d : Nat} {v : Value} (hi : i = 1 ∨ i = 3 ∨ i = 4) (hd : d = 44 ∨ d = 46 ∨ d = 47) : EInv w W0 le t (done1 L i) (x.put (some d) v) w' := by
  have e43 : (x.put (some d) v).eval (.tmp 43) = x.eval (.tmp 43) := eval_put_other (by rcases hd with rfl | rfl | rfl <;> decide)
  have e45 : (x.put (some d) v).eval (.tmp 45) = x.eval (.tmp 45) := eval_put_other (by rcases hd with rfl | rfl | rfl <;> decide)
  have e48 : (x.put (some d) v).eval (.tmp 48) = x.eval (.tmp 48) := eval_put_other (by rcases hd with rfl | rfl | rfl <;> decide)
  have e49 : (x.put (some d) v).eval (.tmp 49) = x.eval (.tmp 49) := eval_put_other (by rcases hd with rfl | rfl | rfl <;> decide)
  have e50 : (x.put (some d) v).eval (.tmp 50) = x.eval (.tmp 50) := eval_put_other (by rcases hd with rfl | rfl | rfl <;> decide)
  have e10 : (x.put (some d) v).eval (.tmp 10) = x.eval (.tmp 10) := eval_put_other (by rcases hd with rfl | rfl | rfl <;> decide)
  have f : ∀ k, k ≠ i → done1 L i k = L k := fun k hk => done1_ne hk
  refine ⟨by rw [put_size]; exact h.size, chain h.ent hb, ?_, ?_, ?_, ?_, ?_, ?_⟩
  · rw [f 0 (by omega), f 2 (by omega), e43]; exact fun k1 k2 => Kd.R_below (h.v0 k1 k2) hb
  · rw [f 2 (by omega), f 7 (by omega), e45]; exact fun k1 k2 => Kd.R_below (h.v2 k1 k2) hb
  · rw [f 5 (by omega), f 7 (by omega), e48, e45]
    intro k1 k2
    obtain ⟨g, q1, q2, q3, q4⟩ := h.v5 k1 k2
    exact ⟨g, q1, Kd.C_below q2 hb, q3, Nat.lt_of_lt_of_le q4 hb.size⟩
  · rw [f 6 (by omega), f 7 (by omega), e48, e49]
    intro k1 k2
    obtain ⟨g, g', q1, q2, q3⟩ := h.v6 k1 k2
    exact ⟨g, g', q1, q2, (hb.block _ (blk_lt q3)).trans q3⟩
  · rw [f 7 (by omega), e50]
    intro k1
    obtain ⟨A, c, q1, q2, q3⟩ := h.v7 k1
    exact ⟨A, c, q1, q2, Kd.C_below q3 hb⟩
  · rw [f 8 (by omega), e10, e50]; exact h.v8
theorem EInv.lit0 (h : EInv w W0 le t L x wx) (h2 : L 2 = false) (h5 : L 5 = false) (h6 : L 6 = false) (h7 : L 7 = false) (h8 : L 8 = false) :
    EInv w W0 le t (done1 L 0) (x.put (some 43) (.slice (some ⟨wx.heap.size, 0, none⟩) 0 0)) (wx.alloc (.cells #[] 69)) := by
  have e43 : (x.put (some 43) (.slice (some ⟨wx.heap.size, 0, none⟩) 0 0)).eval (.tmp 43) = .slice (some ⟨wx.heap.size, 0, none⟩) 0 0 := eval_put_same (Nat.lt_of_lt_of_le (by decide) h.size)
  refine ⟨by rw [put_size]; exact h.size, chain h.ent (below_new _ _), ?_, ?_, ?_, ?_, ?_, ?_⟩
  · rw [e43]; exact fun _ _ => Kd.R_lower (R_empty69 w wx) h.ent.size
  · rw [done1_ne (by decide), h2]; exact fun k => by cases k
  · rw [done1_ne (by decide), h5]; exact fun k => by cases k
  · rw [done1_ne (by decide), h6]; exact fun k => by cases k
  · rw [done1_ne (by decide), h7]; exact fun k => by cases k
  · rw [done1_ne (by decide), h8]; exact fun k => by cases k
theorem EInv.join (h : EInv w W0 le t L x wx) (h5 : L 5 = false) (h6 : L 6 = false) (h7 : L 7 = false) (h8 : L 8 = false) {v : Value} {w' : World} (hR : Kd.R (kI w) 69 w' W0.heap.size (fun _ => True) v le) (hb : Below W0.heap.size W0 w') :
    EInv w W0 le t (done1 L 2) (x.put (some 45) v) w' := by
  have e45 : (x.put (some 45) v).eval (.tmp 45) = v := eval_put_same (Nat.lt_of_lt_of_le (by decide) h.size)
  refine ⟨by rw [put_size]; exact h.size, hb, ?_, ?_, ?_, ?_, ?_, ?_⟩
  · rw [done1_eq]; exact fun _ k => by cases k
  · rw [e45]; exact fun _ _ => hR
  · rw [done1_ne (by decide), h5]; exact fun k => by cases k
  · rw [done1_ne (by decide), h6]; exact fun k => by cases k
  · rw [done1_ne (by decide), h7]; exact fun k => by cases k
  · rw [done1_ne (by decide), h8]; exact fun k => by cases k
theorem EInv.lit5 (h : EInv w W0 le t L x wx) (h2 : L 2 = true) (h6 : L 6 = false) (h7 : L 7 = false) (h8 : L 8 = false) :
    EInv w W0 le t (done1 L 5) (x.put (some 48) (.slice (some ⟨wx.heap.size, 0, none⟩) 1 1)) (wx.alloc (.cells #[.int .i64 t.f0, .int .i64 t.f1, .int .u64 t.f2, .int .u64 t.f3, .int .u64 t.f4, .string t.f5] 54)) := by
  have e45 : (x.put (some 48) (.slice (some ⟨wx.heap.size, 0, none⟩) 1 1)).eval (.tmp 45) = x.eval (.tmp 45) := eval_put_other (by decide)
  have e48 : (x.put (some 48) (.slice (some ⟨wx.heap.size, 0, none⟩) 1 1)).eval (.tmp 48) = .slice (some ⟨wx.heap.size, 0, none⟩) 1 1 := eval_put_same (Nat.lt_of_lt_of_le (by decide) h.size)
  have k1 := h.v2 h2 h7
  refine ⟨by rw [put_size]; exact h.size, chain h.ent (below_new _ _), ?_, ?_, ?_, ?_, ?_, ?_⟩
  · rw [done1_ne (by decide), done1_ne (by decide), h2]; exact fun _ k => by cases k
  · rw [e45]; exact fun _ _ => Kd.R_below k1 (below_new _ _)
  · rw [e48, e45]
    exact fun _ _ => ⟨_, rfl, C_one54 wx t, fun e => by have := (own_lt69 k1 e.symm).2; omega, by simp⟩
  · rw [done1_ne (by decide), h6]; exact fun k => by cases k
  · rw [done1_ne (by decide), h7]; exact fun k => by cases k
  · rw [done1_ne (by decide), h8]; exact fun k => by cases k
theorem EInv.lit6 (h : EInv w W0 le t L x wx) (h2 : L 2 = true) (h5 : L 5 = true) (h7 : L 7 = false) (h8 : L 8 = false) {g : Nat} (hg : x.eval (.tmp 48) = .slice (some ⟨g, 0, none⟩) 1 1) :
    EInv w W0 le t (done1 L 6) (x.put (some 49) (.slice (some ⟨wx.heap.size, 0, none⟩) 1 1)) (wx.alloc (.cells #[.slice (some ⟨g, 0, none⟩) 1 1] 69)) := by
  have e45 : (x.put (some 49) (.slice (some ⟨wx.heap.size, 0, none⟩) 1 1)).eval (.tmp 45) = x.eval (.tmp 45) := eval_put_other (by decide)
  have e48 : (x.put (some 49) (.slice (some ⟨wx.heap.size, 0, none⟩) 1 1)).eval (.tmp 48) = x.eval (.tmp 48) := eval_put_other (by decide)
  have e49 : (x.put (some 49) (.slice (some ⟨wx.heap.size, 0, none⟩) 1 1)).eval (.tmp 49) = .slice (some ⟨wx.heap.size, 0, none⟩) 1 1 := eval_put_same (Nat.lt_of_lt_of_le (by decide) h.size)
  have k1 := h.v2 h2 h7
  refine ⟨by rw [put_size]; exact h.size, chain h.ent (below_new _ _), ?_, ?_, ?_, ?_, ?_, ?_⟩
  · rw [done1_ne (by decide), done1_ne (by decide), h2]; exact fun _ k => by cases k
  · rw [e45]; exact fun _ _ => Kd.R_below k1 (below_new _ _)
  · rw [e48, e45]
    intro _ _
    obtain ⟨g, q1, q2, q3, q4⟩ := h.v5 h5 h7
    exact ⟨g, q1, Kd.C_below q2 (below_new _ _), q3, Nat.lt_of_lt_of_le q4 (below_new _ _).size⟩
  · rw [e48, e49]
    exact fun _ _ => ⟨g, _, hg, rfl, heap_alloc_new _ _⟩
  · rw [done1_ne (by decide), h7]; exact fun k => by cases k
  · rw [done1_ne (by decide), h8]; exact fun k => by cases k
theorem EInv.last (h : EInv w W0 le t L x wx) (h2 : L 2 = true) (h8 : L 8 = false) {v : Value} {w' : World} {A : Option Addr} {c : Nat} (hv : v = .slice A (le ++ [[t]]).length c) (hc : (le ++ [[t]]).length ≤ c) (hC : Kd.C (Kd.slice 54 k54) w' A (le ++ [[t]]).length (le ++ [[t]]))
    (hb : Below W0.heap.size W0 w') : EInv w W0 le t (done1 L 7) (x.put (some 50) v) w' := by
  have e50 : (x.put (some 50) v).eval (.tmp 50) = v := eval_put_same (Nat.lt_of_lt_of_le (by decide) h.size)
  refine ⟨by rw [put_size]; exact h.size, hb, ?_, ?_, ?_, ?_, ?_, ?_⟩
  · rw [done1_ne (by decide), done1_ne (by decide), h2]; exact fun _ k => by cases k
  · rw [done1_eq]; exact fun _ k => by cases k
  · rw [done1_eq]; exact fun _ k => by cases k
  · rw [done1_eq]; exact fun _ k => by cases k
  · rw [e50]; exact fun _ => ⟨A, c, hv, hc, hC⟩
  · rw [done1_ne (by decide), h8]; exact fun k => by cases k
theorem EInv.fin (h : EInv w W0 le t L x wx) (h2 : L 2 = true) (h7 : L 7 = true) : EInv w W0 le t (done1 L 8) (x.put (some 10) (x.eval (.tmp 50))) wx := by
  have e10 : (x.put (some 10) (x.eval (.tmp 50))).eval (.tmp 10) = x.eval (.tmp 50) := eval_put_same (Nat.lt_of_lt_of_le (by decide) h.size)
  have e50 : (x.put (some 10) (x.eval (.tmp 50))).eval (.tmp 50) = x.eval (.tmp 50) := eval_put_other (by decide)
  refine ⟨by rw [put_size]; exact h.size, h.ent, ?_, ?_, ?_, ?_, ?_, ?_⟩
  · rw [done1_ne (by decide), done1_ne (by decide), h2]; exact fun _ k => by cases k
  · rw [done1_ne (by decide), done1_ne (by decide), h7]; exact fun _ k => by cases k
  · rw [done1_ne (by decide), done1_ne (by decide), h7]; exact fun _ k => by cases k
  · rw [done1_ne (by decide), done1_ne (by decide), h7]; exact fun _ k => by cases k
  · rw [e50]; exact fun _ => h.v7 h7
  · rw [e10, e50]; exact fun _ => rfl
/-- What has been done has been done behind what it waits for. -/
def Ord (L : Nat → Bool) : Prop := (L 4 = true → L 2 = true) ∧ (L 5 = true → L 4 = true) ∧ (L 6 = true → L 5 = true) ∧ (L 7 = true → L 6 = true)
theorem done1_mono {i k : Nat} (h : L k = true) : done1 L i k = true := by
  unfold done1
  split
  · rfl
  · exact h
theorem Ord.done (h : Ord L) (i : Nat) (h4 : i = 4 → L 2 = true) (h5 : i = 5 → L 4 = true) (h6 : i = 6 → L 5 = true) (h7 : i = 7 → L 6 = true) : Ord (done1 L i) := by
  obtain ⟨a, b, c, d⟩ := h
  have key : ∀ x y : Nat, (L x = true → L y = true) → (i = x → L y = true) → done1 L i x = true → done1 L i y = true := by
    intro x y h1 h2 hx
    by_cases e : i = x
    · exact done1_mono (h2 e)
    · rw [done1_ne (fun q => e q.symm)] at hx
      exact done1_mono (h1 hx)
  exact ⟨key 4 2 a h4, key 5 4 b h5, key 6 5 c h6, key 7 6 d h7⟩
theorem Ord.o0 (h : Ord L) (i : Nat) (hi : i < 4 ∨ 7 < i) : Ord (done1 L i) := h.done i (by omega) (by omega) (by omega) (by omega)
theorem Ord.o4 (h : Ord L) (k : L 2 = true) : Ord (done1 L 4) := h.done 4 (fun _ => k) (by omega) (by omega) (by omega)
theorem Ord.o5 (h : Ord L) (k : L 4 = true) : Ord (done1 L 5) := h.done 5 (by omega) (fun _ => k) (by omega) (by omega)
theorem Ord.o6 (h : Ord L) (k : L 5 = true) : Ord (done1 L 6) := h.done 6 (by omega) (by omega) (fun _ => k) (by omega)
theorem Ord.o7 (h : Ord L) (k : L 6 = true) : Ord (done1 L 7) := h.done 7 (by omega) (by omega) (by omega) (fun _ => k)
theorem Ord.init : Ord (fun _ => false) := ⟨fun h => by simp at h, fun h => by simp at h, fun h => by simp at h, fun h => by simp at h⟩
/-- What the second append gives. -/
theorem last_reads {wx w1 : World} {v v1 : Value} {g : Nat} (hR : Kd.R (kI w) 69 wx W0.heap.size (fun _ => True) v le) (h1 : Kd.R (kJ w g t) 69 w1 W0.heap.size (fun _ => True) v1 (le ++ [[t]])) (hg : Kd.C k54 wx (some ⟨g, 0, none⟩) 1 [t]) (hne : some g ≠ v.ownBlock) (hlt : g < wx.heap.size)
    (hgr : wx.grownBy w1 v.ownBlock) (hB : Below w.heap.size w w1) : ∃ A c, v1 = .slice A (le ++ [[t]]).length c ∧ (le ++ [[t]]).length ≤ c ∧ Kd.C (Kd.slice 54 k54) w1 A (le ++ [[t]]).length (le ++ [[t]]) := by
  obtain ⟨A, c, e, hc, hC⟩ := Kd.R_reads h1
  refine ⟨A, c, e, hc, ReadsRow.imp_ hC (Below.refl _ _) (fun p cs hp => ?_)⟩
  obtain ⟨A', n, e', hl, hp⟩ := hp
  rcases hp with hp | ⟨rfl, rfl⟩
  · exact ⟨A', n, e', hl, Kd.C_below hp hB⟩
  · refine ⟨_, n, e', hl, C_same54 hg (fun ad ha => ?_)⟩
    cases ha
    exact hgr.block g hlt hne
end
end Go.Proofs.YtgenbmhmcnaiiaaDoor.H

/- laws.FnSemverTermsEither behind its guards. -/
namespace Go.Proofs.YtgenbmhmcnaiiaaDoor.H
open Go.RowKit Go.Proofs.YtgenbmhmcnaiiaaDoor.PG Go.Proofs.YtgenbmhmcnaiiaaDoorW.PrintWords Go.Proofs.YtgenbmhmcnaiiaaDoorW.PrintLast Go.Proofs.YtgenbmhmcnaiiaaDoorW.PrintMore
set_option linter.unusedVariables false
set_option linter.unusedSimpArgs false

theorem row69 {w : World} {g g' : Nat} {t : S54} (h : w.heap[g']? = some (.cells #[.slice (some ⟨g, 0, none⟩) 1 1] 69 (0, 0))) :
    ReadsRow (fun (x : List S54) cs => cs = [.slice (some ⟨g, 0, none⟩) 1 1] ∧ x = [t]) 1 w (some ⟨g', 0, none⟩) 1 [[t]] := by
  refine ⟨rfl, by decide, fun _ => ⟨_, rfl, fun j x hx => ?_⟩⟩
  match j, hx with
  | 0, hx =>
    obtain rfl : [t] = x := Option.some.inj hx
    refine ⟨[.slice (some ⟨g, 0, none⟩) 1 1], rfl, ⟨rfl, rfl⟩, fun i u hu => ?_⟩
    match i, hu with
    | 0, hu =>
      obtain rfl := Option.some.inj hu
      exact (blk_cell h 0).trans rfl

set_option maxRecDepth 100000 in
set_option maxHeartbeats 8000000 in
theorem either_tt (k : Nat) (A0 : Option Addr) (c0 : Nat) (l0 : List (List S54)) (A1 : Option Addr) (c1 : Nat) (l1 : List (List S54)) (a b c : Int) (p m : ByteArray) (pre : Bool) (w : World) (hr0 : Kd.C (Kd.slice 54 k54) w A0 l0.length l0) (hc0 : l0.length ≤ c0) (hr1 : Kd.C (Kd.slice 54 k54) w A1 l1.length l1) (hc1 : l1.length ≤ c1) (hA : laws_zzFits11.f k l0 = some true) (hB : laws_zzFits11.f k l1 = some true) (hV : laws_zzFits14.f a b c p m = some true) (hC : laws_scGood.f k l0 = some true) (hD : laws_scGood.f k l1 = some true) (hG : laws_svGood.f k [(⟨a, b, c, p, m⟩ : S27)] = some true) (hGE : GE w) (hl0 : l0.length ≤ 2147483647) (hl1 : l1.length ≤ 2147483647)
    (hTE : impl_TermsHold.f (l0 ++ l1) a b c p m pre = some true) (hTC : impl_TermsHold.f l0 a b c p m pre = some true) (hTO : impl_TermsHold.f ((l0 ++ l1) ++ [[(⟨0, 3, a, b, c, p⟩ : S54)]]) a b c p m pre = some true) :
    Calls Tryd.prog 17 #[.slice A0 l0.length c0, .slice A1 l1.length c1, .agg #[.int .u64 a, .int .u64 b, .int .u64 c, .string p, .string m], .bool pre] w fun e w' => e = .returned (.bool true) ∧ Below w.heap.size w w' := by
  have hu27 := Tryd.underlying27
  have hu67 := Tryd.underlying67
  have HR0 := Aside0.mk hr0
  have HC0 := Aside0.mk hc0
  have HR1 := Aside0.mk hr1
  have HC1 := Aside0.mk hc1
  have V0 := heap_alloc_new w (.cells #[.int .u64 a, .int .u64 b, .int .u64 c, .string p, .string m] 27)
  have B0 := Aside0.mk (below_new w (.cells #[.int .u64 a, .int .u64 b, .int .u64 c, .string p, .string m] 27))
  have z0 : (w.alloc (.cells #[.int .u64 a, .int .u64 b, .int .u64 c, .string p, .string m] 27)).cell? ⟨w.heap.size, 0, none⟩ = some (.int .u64 a) := (blk_cell V0 0).trans rfl
  have z1 : (w.alloc (.cells #[.int .u64 a, .int .u64 b, .int .u64 c, .string p, .string m] 27)).cell? ⟨w.heap.size, 1, none⟩ = some (.int .u64 b) := (blk_cell V0 1).trans rfl
  have z2 : (w.alloc (.cells #[.int .u64 a, .int .u64 b, .int .u64 c, .string p, .string m] 27)).cell? ⟨w.heap.size, 2, none⟩ = some (.int .u64 c) := (blk_cell V0 2).trans rfl
  have z3 : (w.alloc (.cells #[.int .u64 a, .int .u64 b, .int .u64 c, .string p, .string m] 27)).cell? ⟨w.heap.size, 3, none⟩ = some (.string p) := (blk_cell V0 3).trans rfl
  have z4 : (w.alloc (.cells #[.int .u64 a, .int .u64 b, .int .u64 c, .string p, .string m] 27)).cell? ⟨w.heap.size, 4, none⟩ = some (.string m) := (blk_cell V0 4).trans rfl
  replace V0 := Aside0.mk V0
  clear hr0 hc0 hr1 hc1
  have HA := Aside0.mk hA
  have HB := Aside0.mk hB
  have HV := Aside0.mk hV
  have HC := Aside0.mk hC
  have HD := Aside0.mk hD
  have HG := Aside0.mk hG
  have HGE := Aside0.mk hGE
  have HL0 := Aside0.mk hl0
  have HL1 := Aside0.mk hl1
  have HTE := Aside0.mk hTE
  have HTC := Aside0.mk hTC
  have HTO := Aside0.mk hTO
  have hst : laws_stTerm.f 0 a b c p m 3 = some (0, 3, a, b, c, p) := by
    have h1 : (3 : Int) > 1 := by decide
    have h2 : (3 : Int) > 2 := by decide
    unfold laws_stTerm.f
    rw [if_pos h1, if_pos h2, if_pos h2]
  clear hA hB hV hC hD hG hGE hl0 hl1 hTE hTC hTO
  go_enter Tryd.func17, Tryd.ntmps17
  go_wp2_with (first | (first | (go_at_call 68; clear z0 z1 z2 z3 z4; refine (laws_zzFits11.calls k A0 c0 l0 _ _ (Kd.C_below HR0.out B0.out) HC0.out HA.out).mono ?_; rintro e w1 ⟨rfl, hb⟩; have B1 : Aside0 (Below w.heap.size w w1) := Aside0.mk (chain B0.out hb); have V1 := (hb.block _ (blk_lt V0.out)).trans V0.out; have z0 : w1.cell? ⟨w.heap.size, 0, none⟩ = some (.int .u64 a) := (blk_cell V1 0).trans rfl; have z1 : w1.cell? ⟨w.heap.size, 1, none⟩ = some (.int .u64 b) := (blk_cell V1 1).trans rfl; have z2 : w1.cell? ⟨w.heap.size, 2, none⟩ = some (.int .u64 c) := (blk_cell V1 2).trans rfl; have z3 : w1.cell? ⟨w.heap.size, 3, none⟩ = some (.string p) := (blk_cell V1 3).trans rfl; have z4 : w1.cell? ⟨w.heap.size, 4, none⟩ = some (.string m) := (blk_cell V1 4).trans rfl; replace V1 := Aside0.mk V1; clear hb HA) | (go_at_call 68; clear z0 z1 z2 z3 z4; refine (laws_zzFits11.calls k A1 c1 l1 _ _ (Kd.C_below HR1.out B1.out) HC1.out HB.out).mono ?_; rintro e w2 ⟨rfl, hb⟩; have B2 : Aside0 (Below w.heap.size w w2) := Aside0.mk (chain B1.out hb); have V2 := (hb.block _ (blk_lt V1.out)).trans V1.out; have z0 : w2.cell? ⟨w.heap.size, 0, none⟩ = some (.int .u64 a) := (blk_cell V2 0).trans rfl; have z1 : w2.cell? ⟨w.heap.size, 1, none⟩ = some (.int .u64 b) := (blk_cell V2 1).trans rfl; have z2 : w2.cell? ⟨w.heap.size, 2, none⟩ = some (.int .u64 c) := (blk_cell V2 2).trans rfl; have z3 : w2.cell? ⟨w.heap.size, 3, none⟩ = some (.string p) := (blk_cell V2 3).trans rfl; have z4 : w2.cell? ⟨w.heap.size, 4, none⟩ = some (.string m) := (blk_cell V2 4).trans rfl; replace V2 := Aside0.mk V2; clear hb HB)) | (go_at_call 24; clear z0 z1 z2 z3 z4; refine (laws_zzFits14.calls _ _ _ _ _ _ _ HV.out).mono ?_; rintro e w3 ⟨rfl, hb⟩; have B3 : Aside0 (Below w.heap.size w w3) := Aside0.mk (chain B2.out hb); have V3 := (hb.block _ (blk_lt V2.out)).trans V2.out; have z0 : w3.cell? ⟨w.heap.size, 0, none⟩ = some (.int .u64 a) := (blk_cell V3 0).trans rfl; have z1 : w3.cell? ⟨w.heap.size, 1, none⟩ = some (.int .u64 b) := (blk_cell V3 1).trans rfl; have z2 : w3.cell? ⟨w.heap.size, 2, none⟩ = some (.int .u64 c) := (blk_cell V3 2).trans rfl; have z3 : w3.cell? ⟨w.heap.size, 3, none⟩ = some (.string p) := (blk_cell V3 3).trans rfl; have z4 : w3.cell? ⟨w.heap.size, 4, none⟩ = some (.string m) := (blk_cell V3 4).trans rfl; replace V3 := Aside0.mk V3; clear hb) | (first | (go_at_call 69; clear z0 z1 z2 z3 z4; refine (laws_scGood.calls k A0 c0 l0 _ _ (Kd.C_below HR0.out B3.out) HC0.out HC.out).mono ?_; rintro e w4 ⟨rfl, hb⟩; have B4 : Aside0 (Below w.heap.size w w4) := Aside0.mk (chain B3.out hb); have V4 := (hb.block _ (blk_lt V3.out)).trans V3.out; have z0 : w4.cell? ⟨w.heap.size, 0, none⟩ = some (.int .u64 a) := (blk_cell V4 0).trans rfl; have z1 : w4.cell? ⟨w.heap.size, 1, none⟩ = some (.int .u64 b) := (blk_cell V4 1).trans rfl; have z2 : w4.cell? ⟨w.heap.size, 2, none⟩ = some (.int .u64 c) := (blk_cell V4 2).trans rfl; have z3 : w4.cell? ⟨w.heap.size, 3, none⟩ = some (.string p) := (blk_cell V4 3).trans rfl; have z4 : w4.cell? ⟨w.heap.size, 4, none⟩ = some (.string m) := (blk_cell V4 4).trans rfl; replace V4 := Aside0.mk V4; clear hb HC) | (go_at_call 69; clear z0 z1 z2 z3 z4; refine (laws_scGood.calls k A1 c1 l1 _ _ (Kd.C_below HR1.out B4.out) HC1.out HD.out).mono ?_; rintro e w5 ⟨rfl, hb⟩; have B5 : Aside0 (Below w.heap.size w w5) := Aside0.mk (chain B4.out hb); have V5 := (hb.block _ (blk_lt V4.out)).trans V4.out; have z0 : w5.cell? ⟨w.heap.size, 0, none⟩ = some (.int .u64 a) := (blk_cell V5 0).trans rfl; have z1 : w5.cell? ⟨w.heap.size, 1, none⟩ = some (.int .u64 b) := (blk_cell V5 1).trans rfl; have z2 : w5.cell? ⟨w.heap.size, 2, none⟩ = some (.int .u64 c) := (blk_cell V5 2).trans rfl; have z3 : w5.cell? ⟨w.heap.size, 3, none⟩ = some (.string p) := (blk_cell V5 3).trans rfl; have z4 : w5.cell? ⟨w.heap.size, 4, none⟩ = some (.string m) := (blk_cell V5 4).trans rfl; replace V5 := Aside0.mk V5; clear hb HD)) | (go_at_call 29; clear z0 z1 z2 z3 z4; refine (laws_svGood.calls k (some ⟨w5.heap.size, 0, none⟩) 1 [(⟨a, b, c, p, m⟩ : S27)] _ (w5.alloc (.cells #[.int .u64 a, .int .u64 b, .int .u64 c, .string p, .string m] 27)) (C_one27 w5 ⟨a, b, c, p, m⟩) (Nat.le_refl 1) HG.out).mono ?_; rintro e w6 ⟨rfl, hb⟩; have B6 : Aside0 (Below w.heap.size w w6) := Aside0.mk (chain (chain B5.out (below_new w5 (.cells #[.int .u64 a, .int .u64 b, .int .u64 c, .string p, .string m] 27))) hb); have V6 := (hb.block _ (Nat.lt_of_lt_of_le (blk_lt V5.out) (below_new w5 (.cells #[.int .u64 a, .int .u64 b, .int .u64 c, .string p, .string m] 27)).size)).trans (((below_new w5 (.cells #[.int .u64 a, .int .u64 b, .int .u64 c, .string p, .string m] 27)).block _ (blk_lt V5.out)).trans V5.out); have z0 : w6.cell? ⟨w.heap.size, 0, none⟩ = some (.int .u64 a) := (blk_cell V6 0).trans rfl; have z1 : w6.cell? ⟨w.heap.size, 1, none⟩ = some (.int .u64 b) := (blk_cell V6 1).trans rfl; have z2 : w6.cell? ⟨w.heap.size, 2, none⟩ = some (.int .u64 c) := (blk_cell V6 2).trans rfl; have z3 : w6.cell? ⟨w.heap.size, 3, none⟩ = some (.string p) := (blk_cell V6 3).trans rfl; have z4 : w6.cell? ⟨w.heap.size, 4, none⟩ = some (.string m) := (blk_cell V6 4).trans rfl; replace V6 := Aside0.mk V6; clear hb) | ((with_reducible refine gate_builtin (b := .append) (xs := #[.tmp 38, .tmp 39]) rfl ?_); at_builtin; refine Kd.R_append_rows (kI w) (Rr := (Kd.slice 54 k54).K w) (w0 := w6) w6.heap.size rfl (.tmp 38) (.tmp 39) 67 69 (.slice none 0 0) 24 rfl Tryd.underlying67 info69 rfl Nat.zero_lt_one (by omega) (.slice (some ⟨w6.heap.size, 0, none⟩) 0 0) [] l0 A0 l0.length c0 (fun _ => True) (fun _ => False) rfl rfl (R_empty69 w w6) ?hR (fun _ _ h => h) (fun _ h => h.elim) (fun _ _ => trivial) (below_new w6 (.cells #[] 69)) ((below_new w6 (.cells #[] 69))).size ?hL ?_; (case hR => exact ReadsRow.imp_ HR0.out (chain B6.out ((below_new w6 (.cells #[] 69)))) (fun _ _ h => h)); (case hL => have := HL0.out; have := HL1.out; (try simp only [List.length_nil]); omega); intro v7 w7 ho hb hg hat; rw [List.nil_append] at ho; have O7 := Aside0.mk ho; have B7 := Aside0.mk hb; clear ho hb hg hat) | ((with_reducible refine gate_builtin (b := .append) (xs := #[.tmp 40, .tmp 41]) rfl ?_); at_builtin; refine Kd.R_append_rows (kI w) (Rr := (Kd.slice 54 k54).K w) (w0 := w6) w6.heap.size rfl (.tmp 40) (.tmp 41) 67 69 (.slice none 0 0) 24 rfl Tryd.underlying67 info69 rfl Nat.zero_lt_one (by omega) v7 l0 l1 A1 l1.length c1 (fun _ => True) (fun _ => False) rfl rfl O7.out ?hR (fun _ _ h => h) (fun _ h => h.elim) (fun _ _ => trivial) B7.out (B7.out).size ?hL ?_; (case hR => exact ReadsRow.imp_ HR1.out (chain B6.out (B7.out)) (fun _ _ h => h)); (case hL => have := HL0.out; have := HL1.out; (try simp only [List.length_nil]); omega); intro v8 w8 ho hb hg hat; have O8 := Aside0.mk ho; have B8 := Aside0.mk hb; clear ho hb hg hat))
  clear z0 z1 z2 z3 z4
  have hV8 := (B8.out.block _ (blk_lt V6.out)).trans V6.out
  obtain ⟨A9, c9, e9, hc9, hC9⟩ := Kd.R_reads O8.out
  subst e9
  have HLe : Aside0 ((l0 ++ l1).length ≤ 4294967294) := ⟨by have := HL0.out; have := HL1.out; rw [List.length_append]; omega⟩
  clear O8 O7
  generalize l0 ++ l1 = le at *
  obtain ⟨W0, hW0⟩ : ∃ W0, w8.drew = W0 := ⟨_, rfl⟩
  have hBW : Below w.heap.size w W0 := by rw [← hW0]; exact chain B6.out (chain B8.out (drew_chain (Below.refl _ _)))
  have hC8 : Kd.C (kI w) W0 A9 le.length le := by rw [← hW0]; exact Kd.C_below hC9 (drew_chain (Below.refl _ _))
  replace hV8 : W0.heap[w.heap.size]? = some (.cells #[.int .u64 a, .int .u64 b, .int .u64 c, .string p, .string m] 27 (0, 0)) := by rw [← hW0]; exact hV8
  have hi2 : ∀ x : Act, 72 ≤ x.tmps.size → EInv w W0 le (⟨0, 3, a, b, c, p⟩ : S54) (fun _ => false) x w8.drew := by rw [hW0]; exact fun x hx => EInv.init hx
  refine region_row2 (id := 6) mixed (by kernel_rfl) (fun i _ v => match i with
      | 0 => True
      | 1 => v = .slice A9 le.length c9
      | 2 => True
      | 3 => v = .agg #[.int .u64 a, .int .u64 b, .int .u64 c, .string p, .string m]
      | 4 => v = .agg #[.int .i64 0, .int .i64 3, .int .u64 a, .int .u64 b, .int .u64 c, .string p]
      | 5 => True
      | 6 => True
      | 7 => True
      | 8 => True
      | _ => True) (fun a b : World => a.heap.size ≤ b.heap.size) (fun L x wx => EInv w W0 le (⟨0, 3, a, b, c, p⟩ : S54) L x wx ∧ Ord L) ⟨hi2 _ (by simp), Ord.init⟩ ?_ ?_ ?_
  · exact fun h _ => h
  · refine ⟨?_, ?_, ?_, ?_, ?_, ?_, ?_, ?_, ?_, trivial⟩
    · intro x wx L hI hA hB hd hs
      obtain ⟨hI, hOr⟩ := hI
      have L2 := hB 2 (by kernel_rfl)
      have L5 := hB 5 (by kernel_rfl)
      have L6 := hB 6 (by kernel_rfl)
      have L7 := hB 7 (by kernel_rfl)
      have L8 := hB 8 (by kernel_rfl)
      clear hd hs
      refine wpOp_plain rfl rfl ?_
      go_simp
      exact ⟨⟨_, rfl⟩, hI.lit0 L2 L5 L6 L7 L8, hOr.o0 0 (by omega)⟩
    · intro x wx L hI hA hB hd hs
      have e9 := ev_of (hs 9 (by kernel_rfl) : x.eval (.tmp 9) = .slice A9 le.length c9)
      obtain ⟨hI, hOr⟩ := hI
      clear hd hs
      refine wpOp_plain rfl rfl ?_
      go_simp
      exact ⟨_, rfl, rfl, hI.step (Below.refl _ _) (.inl rfl) (.inl rfl), hOr.o0 1 (by omega)⟩
    · intro x wx L hI hA hB hd hs
      obtain ⟨hI, hOr⟩ := hI
      have L5 := hB 5 (by kernel_rfl)
      have L6 := hB 6 (by kernel_rfl)
      have L7 := hB 7 (by kernel_rfl)
      have L8 := hB 8 (by kernel_rfl)
      have e44 : x.eval (.tmp 44) = .slice A9 le.length c9 := hd 1 _ 44 rfl rfl (by kernel_rfl)
      have hO := hI.v0 (hA 0 (by kernel_rfl)) (hB 2 (by kernel_rfl))
      obtain ⟨u43, hu43⟩ : ∃ u, x.eval (.tmp 43) = u := ⟨_, rfl⟩
      rw [hu43] at hO
      skip
      refine wpOp_plain rfl rfl ?_
      clear hd hs
      refine rows_wp (kI w) (Rr := (kI w).K w) (w0 := W0) W0.heap.size rfl (.tmp 43) (.tmp 44) 67 69 (.slice none 0 0) 24 rfl Tryd.underlying67 info69 rfl Nat.zero_lt_one (by omega) u43 [] le A9 le.length c9 (fun _ => True) (fun _ => False) hu43 e44 hO (Kd.C_below hC8 hI.ent) (fun _ _ h => h) (fun _ h => h.elim) (fun _ _ => trivial) hI.ent hI.ent.size (by have := HLe.out; simp only [List.length_nil]; omega) ?_
      intro v1 w1 ho hb hg hat
      rw [List.nil_append] at ho
      exact ⟨v1, rfl, fun _ => trivial, hg.size, ⟨hI.join L5 L6 L7 L8 ho hb, hOr.o0 2 (by omega)⟩⟩
    · intro x wx L hI hA hB hd hs
      have e6 := ev_of (hs 6 (by kernel_rfl) : x.eval (.tmp 6) = .pointer (some ⟨w.heap.size, 0, none⟩))
      obtain ⟨hI, hOr⟩ := hI
      have hbx := (hI.ent.block _ (blk_lt hV8)).trans hV8
      have z0 : wx.cell? ⟨w.heap.size, 0, none⟩ = some (.int .u64 a) := (blk_cell hbx 0).trans rfl
      have z1 : wx.cell? ⟨w.heap.size, 1, none⟩ = some (.int .u64 b) := (blk_cell hbx 1).trans rfl
      have z2 : wx.cell? ⟨w.heap.size, 2, none⟩ = some (.int .u64 c) := (blk_cell hbx 2).trans rfl
      have z3 : wx.cell? ⟨w.heap.size, 3, none⟩ = some (.string p) := (blk_cell hbx 3).trans rfl
      have z4 : wx.cell? ⟨w.heap.size, 4, none⟩ = some (.string m) := (blk_cell hbx 4).trans rfl
      clear hd hs
      refine wpOp_plain rfl rfl ?_
      go_simp
      exact ⟨_, rfl, rfl, hI.step (Below.refl _ _) (.inr (.inl rfl)) (.inr (.inl rfl)), hOr.o0 3 (by omega)⟩
    · intro x wx L hI hA hB hd hs
      have e46 := ev_of (hd 3 _ 46 rfl rfl (by kernel_rfl) : x.eval (.tmp 46) = .agg #[.int .u64 a, .int .u64 b, .int .u64 c, .string p, .string m])
      obtain ⟨hI, hOr⟩ := hI
      have L2 := hA 2 (by kernel_rfl)
      clear hd hs
      refine wpOp_plain rfl rfl ?_
      go_simp
      refine (laws_stTerm.calls 0 a b c p m 3 0 3 a b c p _ hst).mono ?_
      rintro e w1 ⟨rfl, hb⟩
      exact ⟨_, rfl, rfl, hb.size, hI.step hb (.inr (.inr rfl)) (.inr (.inr rfl)), hOr.o4 L2⟩
    · intro x wx L hI hA hB hd hs
      have e47 := ev_of (hd 4 _ 47 rfl rfl (by kernel_rfl) : x.eval (.tmp 47) = .agg #[.int .i64 0, .int .i64 3, .int .u64 a, .int .u64 b, .int .u64 c, .string p])
      obtain ⟨hI, hOr⟩ := hI
      have L4 := hA 4 (by kernel_rfl)
      have L2 := hOr.1 L4
      have L6 := hB 6 (by kernel_rfl)
      have L7 := hB 7 (by kernel_rfl)
      have L8 := hB 8 (by kernel_rfl)
      clear hd hs
      refine wpOp_plain rfl rfl ?_
      go_simp
      exact ⟨⟨_, rfl⟩, hI.lit5 L2 L6 L7 L8, hOr.o5 L4⟩
    · intro x wx L hI hA hB hd hs
      obtain ⟨hI, hOr⟩ := hI
      have L5 := hA 5 (by kernel_rfl)
      have L2 := hOr.1 (hOr.2.1 L5)
      have L7 := hB 7 (by kernel_rfl)
      have L8 := hB 8 (by kernel_rfl)
      obtain ⟨g, hu48, hC6, hne6, hlt6⟩ := hI.v5 L5 L7
      have e48 := ev_of hu48
      skip
      refine wpOp_plain rfl rfl ?_
      clear hd hs
      go_simp
      exact ⟨⟨_, rfl⟩, hI.lit6 L2 L5 L7 L8 hu48, hOr.o6 L5⟩
    · intro x wx L hI hA hB hd hs
      obtain ⟨hI, hOr⟩ := hI
      have L6 := hA 6 (by kernel_rfl)
      have L5 := hOr.2.2.1 L6
      have L2 := hA 2 (by kernel_rfl)
      have L7 := hB 7 (by kernel_rfl)
      have L8 := hB 8 (by kernel_rfl)
      obtain ⟨g, g1, hu48, hu49, hblk⟩ := hI.v6 L6 L7
      obtain ⟨g2, hu48b, hC7, hne7, hlt7⟩ := hI.v5 L5 L7
      obtain rfl : g2 = g := by
        rw [hu48] at hu48b
        simpa using hu48b.symm
      have hO := hI.v2 L2 L7
      obtain ⟨u45, hu45⟩ : ∃ u, x.eval (.tmp 45) = u := ⟨_, rfl⟩
      rw [hu45] at hO hne7
      skip
      refine wpOp_plain rfl rfl ?_
      clear hd hs
      refine rows_wp (kJ w g2 (⟨0, 3, a, b, c, p⟩ : S54)) (Rr := fun x cs => cs = [.slice (some ⟨g2, 0, none⟩) 1 1] ∧ x = [(⟨0, 3, a, b, c, p⟩ : S54)]) (w0 := W0) W0.heap.size rfl (.tmp 45) (.tmp 49) 67 69 (.slice none 0 0) 24 rfl Tryd.underlying67 info69 rfl Nat.zero_lt_one (by omega) u45 le [[(⟨0, 3, a, b, c, p⟩ : S54)]] (some ⟨g1, 0, none⟩) 1 1 (fun _ => True) (fun _ => False) hu45 hu49 (kJ_of_kI g2 (⟨0, 3, a, b, c, p⟩ : S54) hO) (row69 hblk) (fun x cs h => by obtain ⟨h1, h2⟩ := h; subst h2; exact ⟨_, _, h1, Nat.le_refl 1, .inr ⟨rfl, rfl⟩⟩) (fun _ h => h.elim) (fun _ _ => trivial) hI.ent hI.ent.size (by have := HLe.out; omega) ?_
      intro v1 w1 ho hb hg hat
      obtain ⟨Ax, cx, hv, hc, hCx⟩ := last_reads hO ho hC7 hne7 hlt7 hg (chain hBW hb)
      exact ⟨v1, rfl, fun _ => trivial, hg.size, ⟨hI.last L2 L8 hv hc hCx hb, hOr.o7 L6⟩⟩
    · intro x wx L hI hA hB hd hs
      obtain ⟨hI, hOr⟩ := hI
      have L2 := hA 2 (by kernel_rfl)
      have L7 := hA 7 (by kernel_rfl)
      have hfin := hI.fin L2 L7
      obtain ⟨u50, hu50⟩ : ∃ u, x.eval (.tmp 50) = u := ⟨_, rfl⟩
      have e50 := ev_of hu50
      rw [hu50] at hfin
      skip
      refine wpOp_plain rfl rfl ?_
      clear hd hs
      go_simp
      exact ⟨⟨_, rfl⟩, hfin, hOr.o0 8 (by omega)⟩
  · intro vs wq hl hR hv
    obtain ⟨v0, v1, v2, v3, v4, v5, v6, v7, v8, rfl⟩ := list_9 hl
    obtain rfl : .slice A9 le.length c9 = v1 := (hv 1 v1 rfl rfl).symm
    obtain rfl : .agg #[.int .u64 a, .int .u64 b, .int .u64 c, .string p, .string m] = v3 := (hv 3 v3 rfl rfl).symm
    obtain rfl : .agg #[.int .i64 0, .int .i64 3, .int .u64 a, .int .u64 b, .int .u64 c, .string p] = v4 := (hv 4 v4 rfl rfl).symm
    clear hv hl
    simp only [List.map_cons, List.map_nil, putAll, Act.put, List.setIfInBounds_toArray, List.set_cons_zero, List.set_cons_succ]
    have HI := hR (fun i => decide (i < 9)) (fun i hi => by simpa using hi) (fun i hi => by simpa using hi)
    have r7 := HI.1.v7 rfl
    have r8 := HI.1.v8 rfl
    have rE := HI.1.ent
    simp only [List.map_cons, List.map_nil, putAll, Act.put, List.setIfInBounds_toArray, List.set_cons_zero, List.set_cons_succ] at r7 r8
    replace r8 : v8 = v7 := r8
    subst r8
    obtain ⟨A10, c10, e10, hc10, hC10⟩ := r7
    replace e10 : v8 = .slice A10 (le ++ [[(⟨0, 3, a, b, c, p⟩ : S54)]]).length c10 := e10
    subst e10
    generalize le ++ [[(⟨0, 3, a, b, c, p⟩ : S54)]] = lo at *
    have hVq := (rE.block _ (blk_lt hV8)).trans hV8
    have hBq := chain hBW rE
    have HCe := Aside0.mk (C_slice_of (Kd.C_below hC8 rE) hBq)
    have HCo := Aside0.mk hC10
    have HGq := Aside0.mk (HGE.out.below hBq)
    clear hR HI hi2 rE hC10 hV8 hC8 hBW
    go_wp2_with fail
    refine region_row (id := 7) mixed (by kernel_rfl) (fun i _ v => match i with
        | 0 => v = .slice A9 le.length c9
        | 1 => v = .agg #[.int .u64 a, .int .u64 b, .int .u64 c, .string p, .string m]
        | 2 => v = .bool pre
        | 3 => v = .bool true
        | 4 => v = .slice A0 l0.length c0
        | 5 => v = .agg #[.int .u64 a, .int .u64 b, .int .u64 c, .string p, .string m]
        | 6 => v = .bool pre
        | 7 => v = .bool true
        | 8 => v = .bool true
        | 9 => True
        | 10 => True
        | 11 => True
        | 12 => True
        | 13 => v = .bool true
        | 14 => v = .bool true
        | 15 => v = .bool true
        | 16 => v = .slice A10 lo.length c10
        | 17 => v = .agg #[.int .u64 a, .int .u64 b, .int .u64 c, .string p, .string m]
        | 18 => v = .bool pre
        | 19 => v = .bool true
        | 20 => v = .bool true
        | 21 => v = .bool true
        | _ => True) Gr (Gr.refl _) Gr.trans ?_ ?_ ?_
    · exact fun h _ => h
    · refine ⟨?_, ?_, ?_, ?_, ?_, ?_, ?_, ?_, ?_, ?_, ?_, ?_, ?_, ?_, ?_, ?_, ?_, ?_, ?_, ?_, ?_, ?_, trivial⟩
      · intro x wx hR hd hs
        have e9 := ev_of (hs 9 (by kernel_rfl) : x.eval (.tmp 9) = .slice A9 le.length c9)
        clear hd hs
        refine wpOp_plain rfl rfl ?_
        go_simp
        exact ⟨_, rfl, rfl, Gr.refl _⟩
      · intro x wx hR hd hs
        have e6 := ev_of (hs 6 (by kernel_rfl) : x.eval (.tmp 6) = .pointer (some ⟨w.heap.size, 0, none⟩))
        have hbx := ((drew_chain hR).block _ (blk_lt hVq)).trans hVq
        have z0 : wx.cell? ⟨w.heap.size, 0, none⟩ = some (.int .u64 a) := (blk_cell hbx 0).trans rfl
        have z1 : wx.cell? ⟨w.heap.size, 1, none⟩ = some (.int .u64 b) := (blk_cell hbx 1).trans rfl
        have z2 : wx.cell? ⟨w.heap.size, 2, none⟩ = some (.int .u64 c) := (blk_cell hbx 2).trans rfl
        have z3 : wx.cell? ⟨w.heap.size, 3, none⟩ = some (.string p) := (blk_cell hbx 3).trans rfl
        have z4 : wx.cell? ⟨w.heap.size, 4, none⟩ = some (.string m) := (blk_cell hbx 4).trans rfl
        clear hd hs
        refine wpOp_plain rfl rfl ?_
        go_simp
        exact ⟨_, rfl, rfl, Gr.refl _⟩
      · intro x wx hR hd hs
        have e3 := ev_of (hs 3 (by kernel_rfl) : x.eval (.tmp 3) = .bool pre)
        clear hd hs
        refine wpOp_plain rfl rfl ?_
        go_simp
        exact ⟨_, rfl, rfl, Gr.refl _⟩
      · intro x wx hR hd hs
        have e51 := ev_of (hd 0 _ 51 rfl rfl (by kernel_rfl) : x.eval (.tmp 51) = .slice A9 le.length c9)
        have e52 := ev_of (hd 1 _ 52 rfl rfl (by kernel_rfl) : x.eval (.tmp 52) = .agg #[.int .u64 a, .int .u64 b, .int .u64 c, .string p, .string m])
        have e53 := ev_of (hd 2 _ 53 rfl rfl (by kernel_rfl) : x.eval (.tmp 53) = .bool pre)
        have hcx := Kd.C_below HCe.out (drew_chain hR)
        have HGx := HGq.out.below (drew_chain hR)
        clear hd hs
        refine wpOp_plain rfl rfl ?_
        go_simp
        refine (impl_TermsHold.calls A9 c9 le a b c p m pre _ _ hcx hc9 HGx HTE.out).mono ?_
        rintro e w1 ⟨rfl, hb⟩
        exact ⟨_, rfl, rfl, hb⟩
      · intro x wx hR hd hs
        have e0 := ev_of (hs 0 (by kernel_rfl) : x.eval (.tmp 0) = .slice A0 l0.length c0)
        clear hd hs
        refine wpOp_plain rfl rfl ?_
        go_simp
        exact ⟨_, rfl, rfl, Gr.refl _⟩
      · intro x wx hR hd hs
        have e6 := ev_of (hs 6 (by kernel_rfl) : x.eval (.tmp 6) = .pointer (some ⟨w.heap.size, 0, none⟩))
        have hbx := ((drew_chain hR).block _ (blk_lt hVq)).trans hVq
        have z0 : wx.cell? ⟨w.heap.size, 0, none⟩ = some (.int .u64 a) := (blk_cell hbx 0).trans rfl
        have z1 : wx.cell? ⟨w.heap.size, 1, none⟩ = some (.int .u64 b) := (blk_cell hbx 1).trans rfl
        have z2 : wx.cell? ⟨w.heap.size, 2, none⟩ = some (.int .u64 c) := (blk_cell hbx 2).trans rfl
        have z3 : wx.cell? ⟨w.heap.size, 3, none⟩ = some (.string p) := (blk_cell hbx 3).trans rfl
        have z4 : wx.cell? ⟨w.heap.size, 4, none⟩ = some (.string m) := (blk_cell hbx 4).trans rfl
        clear hd hs
        refine wpOp_plain rfl rfl ?_
        go_simp
        exact ⟨_, rfl, rfl, Gr.refl _⟩
      · intro x wx hR hd hs
        have e3 := ev_of (hs 3 (by kernel_rfl) : x.eval (.tmp 3) = .bool pre)
        clear hd hs
        refine wpOp_plain rfl rfl ?_
        go_simp
        exact ⟨_, rfl, rfl, Gr.refl _⟩
      · intro x wx hR hd hs
        have e55 := ev_of (hd 4 _ 55 rfl rfl (by kernel_rfl) : x.eval (.tmp 55) = .slice A0 l0.length c0)
        have e56 := ev_of (hd 5 _ 56 rfl rfl (by kernel_rfl) : x.eval (.tmp 56) = .agg #[.int .u64 a, .int .u64 b, .int .u64 c, .string p, .string m])
        have e57 := ev_of (hd 6 _ 57 rfl rfl (by kernel_rfl) : x.eval (.tmp 57) = .bool pre)
        have hcx := Kd.C_below HR0.out (chain hBq (drew_chain hR))
        have HGx := HGq.out.below (drew_chain hR)
        clear hd hs
        refine wpOp_plain rfl rfl ?_
        go_simp
        refine (impl_TermsHold.calls A0 c0 l0 a b c p m pre _ _ hcx HC0.out HGx HTC.out).mono ?_
        rintro e w1 ⟨rfl, hb⟩
        exact ⟨_, rfl, rfl, hb⟩
      · intro x wx hR hd hs
        have e58 := ev_of (hd 7 _ 58 rfl rfl (by kernel_rfl) : x.eval (.tmp 58) = .bool true)
        clear hd hs
        refine wpOp_plain rfl rfl ?_
        go_simp
        exact ⟨_, rfl, rfl, Gr.refl _⟩
      · intro x wx hR hd hs
        have e1 := ev_of (hs 1 (by kernel_rfl) : x.eval (.tmp 1) = .slice A1 l1.length c1)
        have ey : x.eval (.tmp 59) = .bool true := hd 8 _ 59 rfl rfl (by kernel_rfl)
        clear hd hs
        refine wpOp_guarded rfl rfl (yielded_of rfl rfl ey) (fun hc => absurd hc (by decide)) (fun _ => ⟨_, rfl, trivial, Gr.refl _⟩)
      · intro x wx hR hd hs
        have e6 := ev_of (hs 6 (by kernel_rfl) : x.eval (.tmp 6) = .pointer (some ⟨w.heap.size, 0, none⟩))
        have ey : x.eval (.tmp 59) = .bool true := hd 8 _ 59 rfl rfl (by kernel_rfl)
        clear hd hs
        refine wpOp_guarded rfl rfl (yielded_of rfl rfl ey) (fun hc => absurd hc (by decide)) (fun _ => ⟨_, rfl, trivial, Gr.refl _⟩)
      · intro x wx hR hd hs
        have e3 := ev_of (hs 3 (by kernel_rfl) : x.eval (.tmp 3) = .bool pre)
        have ey : x.eval (.tmp 59) = .bool true := hd 8 _ 59 rfl rfl (by kernel_rfl)
        clear hd hs
        refine wpOp_guarded rfl rfl (yielded_of rfl rfl ey) (fun hc => absurd hc (by decide)) (fun _ => ⟨_, rfl, trivial, Gr.refl _⟩)
      · intro x wx hR hd hs
        obtain ⟨u60, hu60⟩ : ∃ u, x.eval (.tmp 60) = u := ⟨_, rfl⟩
        have e60 := ev_of hu60
        obtain ⟨u61, hu61⟩ : ∃ u, x.eval (.tmp 61) = u := ⟨_, rfl⟩
        have e61 := ev_of hu61
        obtain ⟨u62, hu62⟩ : ∃ u, x.eval (.tmp 62) = u := ⟨_, rfl⟩
        have e62 := ev_of hu62
        have ey : x.eval (.tmp 59) = .bool true := hd 8 _ 59 rfl rfl (by kernel_rfl)
        clear hd hs
        refine wpOp_guarded rfl rfl (yielded_of rfl rfl ey) (fun hc => absurd hc (by decide)) (fun _ => ⟨_, rfl, trivial, Gr.refl _⟩)
      · intro x wx hR hd hs
        have e59 := ev_of (hd 8 _ 59 rfl rfl (by kernel_rfl) : x.eval (.tmp 59) = .bool true)
        obtain ⟨u63, hu63⟩ : ∃ u, x.eval (.tmp 63) = u := ⟨_, rfl⟩
        have e63 := ev_of hu63
        clear hd hs
        refine wpOp_plain rfl rfl ?_
        go_simp
        exact ⟨_, rfl, rfl, Gr.refl _⟩
      · intro x wx hR hd hs
        have e54 := ev_of (hd 3 _ 54 rfl rfl (by kernel_rfl) : x.eval (.tmp 54) = .bool true)
        have e64 := ev_of (hd 13 _ 64 rfl rfl (by kernel_rfl) : x.eval (.tmp 64) = .bool true)
        clear hd hs
        refine wpOp_plain rfl rfl ?_
        go_simp
        exact ⟨_, rfl, rfl, Gr.refl _⟩
      · intro x wx hR hd hs
        have e65 := ev_of (hd 14 _ 65 rfl rfl (by kernel_rfl) : x.eval (.tmp 65) = .bool true)
        clear hd hs
        refine wpOp_plain rfl rfl ?_
        go_simp
        exact ⟨_, rfl, rfl, Gr.refl _⟩
      · intro x wx hR hd hs
        have e10 := ev_of (hs 10 (by kernel_rfl) : x.eval (.tmp 10) = .slice A10 lo.length c10)
        have ey : x.eval (.tmp 66) = .bool true := hd 15 _ 66 rfl rfl (by kernel_rfl)
        clear hd hs
        refine wpOp_guarded rfl rfl (yielded_of rfl rfl ey) (fun _ => ?_) (fun hc => absurd rfl hc)
        go_simp
        exact ⟨_, rfl, rfl, Gr.refl _⟩
      · intro x wx hR hd hs
        have e6 := ev_of (hs 6 (by kernel_rfl) : x.eval (.tmp 6) = .pointer (some ⟨w.heap.size, 0, none⟩))
        have ey : x.eval (.tmp 66) = .bool true := hd 15 _ 66 rfl rfl (by kernel_rfl)
        have hbx := ((drew_chain hR).block _ (blk_lt hVq)).trans hVq
        have z0 : wx.cell? ⟨w.heap.size, 0, none⟩ = some (.int .u64 a) := (blk_cell hbx 0).trans rfl
        have z1 : wx.cell? ⟨w.heap.size, 1, none⟩ = some (.int .u64 b) := (blk_cell hbx 1).trans rfl
        have z2 : wx.cell? ⟨w.heap.size, 2, none⟩ = some (.int .u64 c) := (blk_cell hbx 2).trans rfl
        have z3 : wx.cell? ⟨w.heap.size, 3, none⟩ = some (.string p) := (blk_cell hbx 3).trans rfl
        have z4 : wx.cell? ⟨w.heap.size, 4, none⟩ = some (.string m) := (blk_cell hbx 4).trans rfl
        clear hd hs
        refine wpOp_guarded rfl rfl (yielded_of rfl rfl ey) (fun _ => ?_) (fun hc => absurd rfl hc)
        go_simp
        exact ⟨_, rfl, rfl, Gr.refl _⟩
      · intro x wx hR hd hs
        have e3 := ev_of (hs 3 (by kernel_rfl) : x.eval (.tmp 3) = .bool pre)
        have ey : x.eval (.tmp 66) = .bool true := hd 15 _ 66 rfl rfl (by kernel_rfl)
        clear hd hs
        refine wpOp_guarded rfl rfl (yielded_of rfl rfl ey) (fun _ => ?_) (fun hc => absurd rfl hc)
        go_simp
        exact ⟨_, rfl, rfl, Gr.refl _⟩
      · intro x wx hR hd hs
        have e67 := ev_of (hd 16 _ 67 rfl rfl (by kernel_rfl) : x.eval (.tmp 67) = .slice A10 lo.length c10)
        have e68 := ev_of (hd 17 _ 68 rfl rfl (by kernel_rfl) : x.eval (.tmp 68) = .agg #[.int .u64 a, .int .u64 b, .int .u64 c, .string p, .string m])
        have e69 := ev_of (hd 18 _ 69 rfl rfl (by kernel_rfl) : x.eval (.tmp 69) = .bool pre)
        have ey : x.eval (.tmp 66) = .bool true := hd 15 _ 66 rfl rfl (by kernel_rfl)
        have hcx := Kd.C_below HCo.out (drew_chain hR)
        have HGx := HGq.out.below (drew_chain hR)
        clear hd hs
        refine wpOp_guarded rfl rfl (yielded_of rfl rfl ey) (fun _ => ?_) (fun hc => absurd rfl hc)
        go_simp
        refine (impl_TermsHold.calls A10 c10 lo a b c p m pre _ _ hcx hc10 HGx HTO.out).mono ?_
        rintro e w1 ⟨rfl, hb⟩
        exact ⟨_, rfl, rfl, hb⟩
      · intro x wx hR hd hs
        have e66 := ev_of (hd 15 _ 66 rfl rfl (by kernel_rfl) : x.eval (.tmp 66) = .bool true)
        have e70 := ev_of (hd 19 _ 70 rfl rfl (by kernel_rfl) : x.eval (.tmp 70) = .bool true)
        clear hd hs
        refine wpOp_plain rfl rfl ?_
        go_simp
        exact ⟨_, rfl, rfl, Gr.refl _⟩
      · intro x wx hR hd hs
        have e71 := ev_of (hd 20 _ 71 rfl rfl (by kernel_rfl) : x.eval (.tmp 71) = .bool true)
        clear hd hs
        refine wpOp_plain rfl rfl ?_
        go_simp
        exact ⟨_, rfl, rfl, Gr.refl _⟩
    · intro vs wz hl hRr hv
      obtain ⟨v0, v1, v2, v3, v4, v5, v6, v7, v8, v9, v10, v11, v12, v13, v14, v15, v16, v17, v18, v19, v20, v21, rfl⟩ := list_22 hl
      obtain rfl : .slice A9 le.length c9 = v0 := (hv 0 v0 rfl).symm
      obtain rfl : .agg #[.int .u64 a, .int .u64 b, .int .u64 c, .string p, .string m] = v1 := (hv 1 v1 rfl).symm
      obtain rfl : .bool pre = v2 := (hv 2 v2 rfl).symm
      obtain rfl : .bool true = v3 := (hv 3 v3 rfl).symm
      obtain rfl : .slice A0 l0.length c0 = v4 := (hv 4 v4 rfl).symm
      obtain rfl : .agg #[.int .u64 a, .int .u64 b, .int .u64 c, .string p, .string m] = v5 := (hv 5 v5 rfl).symm
      obtain rfl : .bool pre = v6 := (hv 6 v6 rfl).symm
      obtain rfl : .bool true = v7 := (hv 7 v7 rfl).symm
      obtain rfl : .bool true = v8 := (hv 8 v8 rfl).symm
      obtain rfl : .bool true = v13 := (hv 13 v13 rfl).symm
      obtain rfl : .bool true = v14 := (hv 14 v14 rfl).symm
      obtain rfl : .bool true = v15 := (hv 15 v15 rfl).symm
      obtain rfl : .slice A10 lo.length c10 = v16 := (hv 16 v16 rfl).symm
      obtain rfl : .agg #[.int .u64 a, .int .u64 b, .int .u64 c, .string p, .string m] = v17 := (hv 17 v17 rfl).symm
      obtain rfl : .bool pre = v18 := (hv 18 v18 rfl).symm
      obtain rfl : .bool true = v19 := (hv 19 v19 rfl).symm
      obtain rfl : .bool true = v20 := (hv 20 v20 rfl).symm
      obtain rfl : .bool true = v21 := (hv 21 v21 rfl).symm
      clear hv hl
      simp only [List.map_cons, List.map_nil, putAll, Act.put, List.setIfInBounds_toArray, List.set_cons_zero, List.set_cons_succ]
      go_wp2
      go_ret
      exact ⟨rfl, chain hBq (drew_chain hRr)⟩

set_option maxRecDepth 100000 in
set_option maxHeartbeats 8000000 in
theorem either_ft (k : Nat) (A0 : Option Addr) (c0 : Nat) (l0 : List (List S54)) (A1 : Option Addr) (c1 : Nat) (l1 : List (List S54)) (a b c : Int) (p m : ByteArray) (pre : Bool) (w : World) (hr0 : Kd.C (Kd.slice 54 k54) w A0 l0.length l0) (hc0 : l0.length ≤ c0) (hr1 : Kd.C (Kd.slice 54 k54) w A1 l1.length l1) (hc1 : l1.length ≤ c1) (hA : laws_zzFits11.f k l0 = some true) (hB : laws_zzFits11.f k l1 = some true) (hV : laws_zzFits14.f a b c p m = some true) (hC : laws_scGood.f k l0 = some true) (hD : laws_scGood.f k l1 = some true) (hG : laws_svGood.f k [(⟨a, b, c, p, m⟩ : S27)] = some true) (hGE : GE w) (hl0 : l0.length ≤ 2147483647) (hl1 : l1.length ≤ 2147483647)
    (hTE : impl_TermsHold.f (l0 ++ l1) a b c p m pre = some true) (hTC : impl_TermsHold.f l0 a b c p m pre = some false) (hTD : impl_TermsHold.f l1 a b c p m pre = some true) (hTO : impl_TermsHold.f ((l0 ++ l1) ++ [[(⟨0, 3, a, b, c, p⟩ : S54)]]) a b c p m pre = some true) :
    Calls Tryd.prog 17 #[.slice A0 l0.length c0, .slice A1 l1.length c1, .agg #[.int .u64 a, .int .u64 b, .int .u64 c, .string p, .string m], .bool pre] w fun e w' => e = .returned (.bool true) ∧ Below w.heap.size w w' := by
  have hu27 := Tryd.underlying27
  have hu67 := Tryd.underlying67
  have HR0 := Aside0.mk hr0
  have HC0 := Aside0.mk hc0
  have HR1 := Aside0.mk hr1
  have HC1 := Aside0.mk hc1
  have V0 := heap_alloc_new w (.cells #[.int .u64 a, .int .u64 b, .int .u64 c, .string p, .string m] 27)
  have B0 := Aside0.mk (below_new w (.cells #[.int .u64 a, .int .u64 b, .int .u64 c, .string p, .string m] 27))
  have z0 : (w.alloc (.cells #[.int .u64 a, .int .u64 b, .int .u64 c, .string p, .string m] 27)).cell? ⟨w.heap.size, 0, none⟩ = some (.int .u64 a) := (blk_cell V0 0).trans rfl
  have z1 : (w.alloc (.cells #[.int .u64 a, .int .u64 b, .int .u64 c, .string p, .string m] 27)).cell? ⟨w.heap.size, 1, none⟩ = some (.int .u64 b) := (blk_cell V0 1).trans rfl
  have z2 : (w.alloc (.cells #[.int .u64 a, .int .u64 b, .int .u64 c, .string p, .string m] 27)).cell? ⟨w.heap.size, 2, none⟩ = some (.int .u64 c) := (blk_cell V0 2).trans rfl
  have z3 : (w.alloc (.cells #[.int .u64 a, .int .u64 b, .int .u64 c, .string p, .string m] 27)).cell? ⟨w.heap.size, 3, none⟩ = some (.string p) := (blk_cell V0 3).trans rfl
  have z4 : (w.alloc (.cells #[.int .u64 a, .int .u64 b, .int .u64 c, .string p, .string m] 27)).cell? ⟨w.heap.size, 4, none⟩ = some (.string m) := (blk_cell V0 4).trans rfl
  replace V0 := Aside0.mk V0
  clear hr0 hc0 hr1 hc1
  have HA := Aside0.mk hA
  have HB := Aside0.mk hB
  have HV := Aside0.mk hV
  have HC := Aside0.mk hC
  have HD := Aside0.mk hD
  have HG := Aside0.mk hG
  have HGE := Aside0.mk hGE
  have HL0 := Aside0.mk hl0
  have HL1 := Aside0.mk hl1
  have HTE := Aside0.mk hTE
  have HTC := Aside0.mk hTC
  have HTD := Aside0.mk hTD
  have HTO := Aside0.mk hTO
  have hst : laws_stTerm.f 0 a b c p m 3 = some (0, 3, a, b, c, p) := by
    have h1 : (3 : Int) > 1 := by decide
    have h2 : (3 : Int) > 2 := by decide
    unfold laws_stTerm.f
    rw [if_pos h1, if_pos h2, if_pos h2]
  clear hA hB hV hC hD hG hTD hGE hl0 hl1 hTE hTC hTO
  go_enter Tryd.func17, Tryd.ntmps17
  go_wp2_with (first | (first | (go_at_call 68; clear z0 z1 z2 z3 z4; refine (laws_zzFits11.calls k A0 c0 l0 _ _ (Kd.C_below HR0.out B0.out) HC0.out HA.out).mono ?_; rintro e w1 ⟨rfl, hb⟩; have B1 : Aside0 (Below w.heap.size w w1) := Aside0.mk (chain B0.out hb); have V1 := (hb.block _ (blk_lt V0.out)).trans V0.out; have z0 : w1.cell? ⟨w.heap.size, 0, none⟩ = some (.int .u64 a) := (blk_cell V1 0).trans rfl; have z1 : w1.cell? ⟨w.heap.size, 1, none⟩ = some (.int .u64 b) := (blk_cell V1 1).trans rfl; have z2 : w1.cell? ⟨w.heap.size, 2, none⟩ = some (.int .u64 c) := (blk_cell V1 2).trans rfl; have z3 : w1.cell? ⟨w.heap.size, 3, none⟩ = some (.string p) := (blk_cell V1 3).trans rfl; have z4 : w1.cell? ⟨w.heap.size, 4, none⟩ = some (.string m) := (blk_cell V1 4).trans rfl; replace V1 := Aside0.mk V1; clear hb HA) | (go_at_call 68; clear z0 z1 z2 z3 z4; refine (laws_zzFits11.calls k A1 c1 l1 _ _ (Kd.C_below HR1.out B1.out) HC1.out HB.out).mono ?_; rintro e w2 ⟨rfl, hb⟩; have B2 : Aside0 (Below w.heap.size w w2) := Aside0.mk (chain B1.out hb); have V2 := (hb.block _ (blk_lt V1.out)).trans V1.out; have z0 : w2.cell? ⟨w.heap.size, 0, none⟩ = some (.int .u64 a) := (blk_cell V2 0).trans rfl; have z1 : w2.cell? ⟨w.heap.size, 1, none⟩ = some (.int .u64 b) := (blk_cell V2 1).trans rfl; have z2 : w2.cell? ⟨w.heap.size, 2, none⟩ = some (.int .u64 c) := (blk_cell V2 2).trans rfl; have z3 : w2.cell? ⟨w.heap.size, 3, none⟩ = some (.string p) := (blk_cell V2 3).trans rfl; have z4 : w2.cell? ⟨w.heap.size, 4, none⟩ = some (.string m) := (blk_cell V2 4).trans rfl; replace V2 := Aside0.mk V2; clear hb HB)) | (go_at_call 24; clear z0 z1 z2 z3 z4; refine (laws_zzFits14.calls _ _ _ _ _ _ _ HV.out).mono ?_; rintro e w3 ⟨rfl, hb⟩; have B3 : Aside0 (Below w.heap.size w w3) := Aside0.mk (chain B2.out hb); have V3 := (hb.block _ (blk_lt V2.out)).trans V2.out; have z0 : w3.cell? ⟨w.heap.size, 0, none⟩ = some (.int .u64 a) := (blk_cell V3 0).trans rfl; have z1 : w3.cell? ⟨w.heap.size, 1, none⟩ = some (.int .u64 b) := (blk_cell V3 1).trans rfl; have z2 : w3.cell? ⟨w.heap.size, 2, none⟩ = some (.int .u64 c) := (blk_cell V3 2).trans rfl; have z3 : w3.cell? ⟨w.heap.size, 3, none⟩ = some (.string p) := (blk_cell V3 3).trans rfl; have z4 : w3.cell? ⟨w.heap.size, 4, none⟩ = some (.string m) := (blk_cell V3 4).trans rfl; replace V3 := Aside0.mk V3; clear hb) | (first | (go_at_call 69; clear z0 z1 z2 z3 z4; refine (laws_scGood.calls k A0 c0 l0 _ _ (Kd.C_below HR0.out B3.out) HC0.out HC.out).mono ?_; rintro e w4 ⟨rfl, hb⟩; have B4 : Aside0 (Below w.heap.size w w4) := Aside0.mk (chain B3.out hb); have V4 := (hb.block _ (blk_lt V3.out)).trans V3.out; have z0 : w4.cell? ⟨w.heap.size, 0, none⟩ = some (.int .u64 a) := (blk_cell V4 0).trans rfl; have z1 : w4.cell? ⟨w.heap.size, 1, none⟩ = some (.int .u64 b) := (blk_cell V4 1).trans rfl; have z2 : w4.cell? ⟨w.heap.size, 2, none⟩ = some (.int .u64 c) := (blk_cell V4 2).trans rfl; have z3 : w4.cell? ⟨w.heap.size, 3, none⟩ = some (.string p) := (blk_cell V4 3).trans rfl; have z4 : w4.cell? ⟨w.heap.size, 4, none⟩ = some (.string m) := (blk_cell V4 4).trans rfl; replace V4 := Aside0.mk V4; clear hb HC) | (go_at_call 69; clear z0 z1 z2 z3 z4; refine (laws_scGood.calls k A1 c1 l1 _ _ (Kd.C_below HR1.out B4.out) HC1.out HD.out).mono ?_; rintro e w5 ⟨rfl, hb⟩; have B5 : Aside0 (Below w.heap.size w w5) := Aside0.mk (chain B4.out hb); have V5 := (hb.block _ (blk_lt V4.out)).trans V4.out; have z0 : w5.cell? ⟨w.heap.size, 0, none⟩ = some (.int .u64 a) := (blk_cell V5 0).trans rfl; have z1 : w5.cell? ⟨w.heap.size, 1, none⟩ = some (.int .u64 b) := (blk_cell V5 1).trans rfl; have z2 : w5.cell? ⟨w.heap.size, 2, none⟩ = some (.int .u64 c) := (blk_cell V5 2).trans rfl; have z3 : w5.cell? ⟨w.heap.size, 3, none⟩ = some (.string p) := (blk_cell V5 3).trans rfl; have z4 : w5.cell? ⟨w.heap.size, 4, none⟩ = some (.string m) := (blk_cell V5 4).trans rfl; replace V5 := Aside0.mk V5; clear hb HD)) | (go_at_call 29; clear z0 z1 z2 z3 z4; refine (laws_svGood.calls k (some ⟨w5.heap.size, 0, none⟩) 1 [(⟨a, b, c, p, m⟩ : S27)] _ (w5.alloc (.cells #[.int .u64 a, .int .u64 b, .int .u64 c, .string p, .string m] 27)) (C_one27 w5 ⟨a, b, c, p, m⟩) (Nat.le_refl 1) HG.out).mono ?_; rintro e w6 ⟨rfl, hb⟩; have B6 : Aside0 (Below w.heap.size w w6) := Aside0.mk (chain (chain B5.out (below_new w5 (.cells #[.int .u64 a, .int .u64 b, .int .u64 c, .string p, .string m] 27))) hb); have V6 := (hb.block _ (Nat.lt_of_lt_of_le (blk_lt V5.out) (below_new w5 (.cells #[.int .u64 a, .int .u64 b, .int .u64 c, .string p, .string m] 27)).size)).trans (((below_new w5 (.cells #[.int .u64 a, .int .u64 b, .int .u64 c, .string p, .string m] 27)).block _ (blk_lt V5.out)).trans V5.out); have z0 : w6.cell? ⟨w.heap.size, 0, none⟩ = some (.int .u64 a) := (blk_cell V6 0).trans rfl; have z1 : w6.cell? ⟨w.heap.size, 1, none⟩ = some (.int .u64 b) := (blk_cell V6 1).trans rfl; have z2 : w6.cell? ⟨w.heap.size, 2, none⟩ = some (.int .u64 c) := (blk_cell V6 2).trans rfl; have z3 : w6.cell? ⟨w.heap.size, 3, none⟩ = some (.string p) := (blk_cell V6 3).trans rfl; have z4 : w6.cell? ⟨w.heap.size, 4, none⟩ = some (.string m) := (blk_cell V6 4).trans rfl; replace V6 := Aside0.mk V6; clear hb) | ((with_reducible refine gate_builtin (b := .append) (xs := #[.tmp 38, .tmp 39]) rfl ?_); at_builtin; refine Kd.R_append_rows (kI w) (Rr := (Kd.slice 54 k54).K w) (w0 := w6) w6.heap.size rfl (.tmp 38) (.tmp 39) 67 69 (.slice none 0 0) 24 rfl Tryd.underlying67 info69 rfl Nat.zero_lt_one (by omega) (.slice (some ⟨w6.heap.size, 0, none⟩) 0 0) [] l0 A0 l0.length c0 (fun _ => True) (fun _ => False) rfl rfl (R_empty69 w w6) ?hR (fun _ _ h => h) (fun _ h => h.elim) (fun _ _ => trivial) (below_new w6 (.cells #[] 69)) ((below_new w6 (.cells #[] 69))).size ?hL ?_; (case hR => exact ReadsRow.imp_ HR0.out (chain B6.out ((below_new w6 (.cells #[] 69)))) (fun _ _ h => h)); (case hL => have := HL0.out; have := HL1.out; (try simp only [List.length_nil]); omega); intro v7 w7 ho hb hg hat; rw [List.nil_append] at ho; have O7 := Aside0.mk ho; have B7 := Aside0.mk hb; clear ho hb hg hat) | ((with_reducible refine gate_builtin (b := .append) (xs := #[.tmp 40, .tmp 41]) rfl ?_); at_builtin; refine Kd.R_append_rows (kI w) (Rr := (Kd.slice 54 k54).K w) (w0 := w6) w6.heap.size rfl (.tmp 40) (.tmp 41) 67 69 (.slice none 0 0) 24 rfl Tryd.underlying67 info69 rfl Nat.zero_lt_one (by omega) v7 l0 l1 A1 l1.length c1 (fun _ => True) (fun _ => False) rfl rfl O7.out ?hR (fun _ _ h => h) (fun _ h => h.elim) (fun _ _ => trivial) B7.out (B7.out).size ?hL ?_; (case hR => exact ReadsRow.imp_ HR1.out (chain B6.out (B7.out)) (fun _ _ h => h)); (case hL => have := HL0.out; have := HL1.out; (try simp only [List.length_nil]); omega); intro v8 w8 ho hb hg hat; have O8 := Aside0.mk ho; have B8 := Aside0.mk hb; clear ho hb hg hat))
  clear z0 z1 z2 z3 z4
  have hV8 := (B8.out.block _ (blk_lt V6.out)).trans V6.out
  obtain ⟨A9, c9, e9, hc9, hC9⟩ := Kd.R_reads O8.out
  subst e9
  have HLe : Aside0 ((l0 ++ l1).length ≤ 4294967294) := ⟨by have := HL0.out; have := HL1.out; rw [List.length_append]; omega⟩
  clear O8 O7
  generalize l0 ++ l1 = le at *
  obtain ⟨W0, hW0⟩ : ∃ W0, w8.drew = W0 := ⟨_, rfl⟩
  have hBW : Below w.heap.size w W0 := by rw [← hW0]; exact chain B6.out (chain B8.out (drew_chain (Below.refl _ _)))
  have hC8 : Kd.C (kI w) W0 A9 le.length le := by rw [← hW0]; exact Kd.C_below hC9 (drew_chain (Below.refl _ _))
  replace hV8 : W0.heap[w.heap.size]? = some (.cells #[.int .u64 a, .int .u64 b, .int .u64 c, .string p, .string m] 27 (0, 0)) := by rw [← hW0]; exact hV8
  have hi2 : ∀ x : Act, 72 ≤ x.tmps.size → EInv w W0 le (⟨0, 3, a, b, c, p⟩ : S54) (fun _ => false) x w8.drew := by rw [hW0]; exact fun x hx => EInv.init hx
  refine region_row2 (id := 6) mixed (by kernel_rfl) (fun i _ v => match i with
      | 0 => True
      | 1 => v = .slice A9 le.length c9
      | 2 => True
      | 3 => v = .agg #[.int .u64 a, .int .u64 b, .int .u64 c, .string p, .string m]
      | 4 => v = .agg #[.int .i64 0, .int .i64 3, .int .u64 a, .int .u64 b, .int .u64 c, .string p]
      | 5 => True
      | 6 => True
      | 7 => True
      | 8 => True
      | _ => True) (fun a b : World => a.heap.size ≤ b.heap.size) (fun L x wx => EInv w W0 le (⟨0, 3, a, b, c, p⟩ : S54) L x wx ∧ Ord L) ⟨hi2 _ (by simp), Ord.init⟩ ?_ ?_ ?_
  · exact fun h _ => h
  · refine ⟨?_, ?_, ?_, ?_, ?_, ?_, ?_, ?_, ?_, trivial⟩
    · intro x wx L hI hA hB hd hs
      obtain ⟨hI, hOr⟩ := hI
      have L2 := hB 2 (by kernel_rfl)
      have L5 := hB 5 (by kernel_rfl)
      have L6 := hB 6 (by kernel_rfl)
      have L7 := hB 7 (by kernel_rfl)
      have L8 := hB 8 (by kernel_rfl)
      clear hd hs
      refine wpOp_plain rfl rfl ?_
      go_simp
      exact ⟨⟨_, rfl⟩, hI.lit0 L2 L5 L6 L7 L8, hOr.o0 0 (by omega)⟩
    · intro x wx L hI hA hB hd hs
      have e9 := ev_of (hs 9 (by kernel_rfl) : x.eval (.tmp 9) = .slice A9 le.length c9)
      obtain ⟨hI, hOr⟩ := hI
      clear hd hs
      refine wpOp_plain rfl rfl ?_
      go_simp
      exact ⟨_, rfl, rfl, hI.step (Below.refl _ _) (.inl rfl) (.inl rfl), hOr.o0 1 (by omega)⟩
    · intro x wx L hI hA hB hd hs
      obtain ⟨hI, hOr⟩ := hI
      have L5 := hB 5 (by kernel_rfl)
      have L6 := hB 6 (by kernel_rfl)
      have L7 := hB 7 (by kernel_rfl)
      have L8 := hB 8 (by kernel_rfl)
      have e44 : x.eval (.tmp 44) = .slice A9 le.length c9 := hd 1 _ 44 rfl rfl (by kernel_rfl)
      have hO := hI.v0 (hA 0 (by kernel_rfl)) (hB 2 (by kernel_rfl))
      obtain ⟨u43, hu43⟩ : ∃ u, x.eval (.tmp 43) = u := ⟨_, rfl⟩
      rw [hu43] at hO
      skip
      refine wpOp_plain rfl rfl ?_
      clear hd hs
      refine rows_wp (kI w) (Rr := (kI w).K w) (w0 := W0) W0.heap.size rfl (.tmp 43) (.tmp 44) 67 69 (.slice none 0 0) 24 rfl Tryd.underlying67 info69 rfl Nat.zero_lt_one (by omega) u43 [] le A9 le.length c9 (fun _ => True) (fun _ => False) hu43 e44 hO (Kd.C_below hC8 hI.ent) (fun _ _ h => h) (fun _ h => h.elim) (fun _ _ => trivial) hI.ent hI.ent.size (by have := HLe.out; simp only [List.length_nil]; omega) ?_
      intro v1 w1 ho hb hg hat
      rw [List.nil_append] at ho
      exact ⟨v1, rfl, fun _ => trivial, hg.size, ⟨hI.join L5 L6 L7 L8 ho hb, hOr.o0 2 (by omega)⟩⟩
    · intro x wx L hI hA hB hd hs
      have e6 := ev_of (hs 6 (by kernel_rfl) : x.eval (.tmp 6) = .pointer (some ⟨w.heap.size, 0, none⟩))
      obtain ⟨hI, hOr⟩ := hI
      have hbx := (hI.ent.block _ (blk_lt hV8)).trans hV8
      have z0 : wx.cell? ⟨w.heap.size, 0, none⟩ = some (.int .u64 a) := (blk_cell hbx 0).trans rfl
      have z1 : wx.cell? ⟨w.heap.size, 1, none⟩ = some (.int .u64 b) := (blk_cell hbx 1).trans rfl
      have z2 : wx.cell? ⟨w.heap.size, 2, none⟩ = some (.int .u64 c) := (blk_cell hbx 2).trans rfl
      have z3 : wx.cell? ⟨w.heap.size, 3, none⟩ = some (.string p) := (blk_cell hbx 3).trans rfl
      have z4 : wx.cell? ⟨w.heap.size, 4, none⟩ = some (.string m) := (blk_cell hbx 4).trans rfl
      clear hd hs
      refine wpOp_plain rfl rfl ?_
      go_simp
      exact ⟨_, rfl, rfl, hI.step (Below.refl _ _) (.inr (.inl rfl)) (.inr (.inl rfl)), hOr.o0 3 (by omega)⟩
    · intro x wx L hI hA hB hd hs
      have e46 := ev_of (hd 3 _ 46 rfl rfl (by kernel_rfl) : x.eval (.tmp 46) = .agg #[.int .u64 a, .int .u64 b, .int .u64 c, .string p, .string m])
      obtain ⟨hI, hOr⟩ := hI
      have L2 := hA 2 (by kernel_rfl)
      clear hd hs
      refine wpOp_plain rfl rfl ?_
      go_simp
      refine (laws_stTerm.calls 0 a b c p m 3 0 3 a b c p _ hst).mono ?_
      rintro e w1 ⟨rfl, hb⟩
      exact ⟨_, rfl, rfl, hb.size, hI.step hb (.inr (.inr rfl)) (.inr (.inr rfl)), hOr.o4 L2⟩
    · intro x wx L hI hA hB hd hs
      have e47 := ev_of (hd 4 _ 47 rfl rfl (by kernel_rfl) : x.eval (.tmp 47) = .agg #[.int .i64 0, .int .i64 3, .int .u64 a, .int .u64 b, .int .u64 c, .string p])
      obtain ⟨hI, hOr⟩ := hI
      have L4 := hA 4 (by kernel_rfl)
      have L2 := hOr.1 L4
      have L6 := hB 6 (by kernel_rfl)
      have L7 := hB 7 (by kernel_rfl)
      have L8 := hB 8 (by kernel_rfl)
      clear hd hs
      refine wpOp_plain rfl rfl ?_
      go_simp
      exact ⟨⟨_, rfl⟩, hI.lit5 L2 L6 L7 L8, hOr.o5 L4⟩
    · intro x wx L hI hA hB hd hs
      obtain ⟨hI, hOr⟩ := hI
      have L5 := hA 5 (by kernel_rfl)
      have L2 := hOr.1 (hOr.2.1 L5)
      have L7 := hB 7 (by kernel_rfl)
      have L8 := hB 8 (by kernel_rfl)
      obtain ⟨g, hu48, hC6, hne6, hlt6⟩ := hI.v5 L5 L7
      have e48 := ev_of hu48
      skip
      refine wpOp_plain rfl rfl ?_
      clear hd hs
      go_simp
      exact ⟨⟨_, rfl⟩, hI.lit6 L2 L5 L7 L8 hu48, hOr.o6 L5⟩
    · intro x wx L hI hA hB hd hs
      obtain ⟨hI, hOr⟩ := hI
      have L6 := hA 6 (by kernel_rfl)
      have L5 := hOr.2.2.1 L6
      have L2 := hA 2 (by kernel_rfl)
      have L7 := hB 7 (by kernel_rfl)
      have L8 := hB 8 (by kernel_rfl)
      obtain ⟨g, g1, hu48, hu49, hblk⟩ := hI.v6 L6 L7
      obtain ⟨g2, hu48b, hC7, hne7, hlt7⟩ := hI.v5 L5 L7
      obtain rfl : g2 = g := by
        rw [hu48] at hu48b
        simpa using hu48b.symm
      have hO := hI.v2 L2 L7
      obtain ⟨u45, hu45⟩ : ∃ u, x.eval (.tmp 45) = u := ⟨_, rfl⟩
      rw [hu45] at hO hne7
      skip
      refine wpOp_plain rfl rfl ?_
      clear hd hs
      refine rows_wp (kJ w g2 (⟨0, 3, a, b, c, p⟩ : S54)) (Rr := fun x cs => cs = [.slice (some ⟨g2, 0, none⟩) 1 1] ∧ x = [(⟨0, 3, a, b, c, p⟩ : S54)]) (w0 := W0) W0.heap.size rfl (.tmp 45) (.tmp 49) 67 69 (.slice none 0 0) 24 rfl Tryd.underlying67 info69 rfl Nat.zero_lt_one (by omega) u45 le [[(⟨0, 3, a, b, c, p⟩ : S54)]] (some ⟨g1, 0, none⟩) 1 1 (fun _ => True) (fun _ => False) hu45 hu49 (kJ_of_kI g2 (⟨0, 3, a, b, c, p⟩ : S54) hO) (row69 hblk) (fun x cs h => by obtain ⟨h1, h2⟩ := h; subst h2; exact ⟨_, _, h1, Nat.le_refl 1, .inr ⟨rfl, rfl⟩⟩) (fun _ h => h.elim) (fun _ _ => trivial) hI.ent hI.ent.size (by have := HLe.out; omega) ?_
      intro v1 w1 ho hb hg hat
      obtain ⟨Ax, cx, hv, hc, hCx⟩ := last_reads hO ho hC7 hne7 hlt7 hg (chain hBW hb)
      exact ⟨v1, rfl, fun _ => trivial, hg.size, ⟨hI.last L2 L8 hv hc hCx hb, hOr.o7 L6⟩⟩
    · intro x wx L hI hA hB hd hs
      obtain ⟨hI, hOr⟩ := hI
      have L2 := hA 2 (by kernel_rfl)
      have L7 := hA 7 (by kernel_rfl)
      have hfin := hI.fin L2 L7
      obtain ⟨u50, hu50⟩ : ∃ u, x.eval (.tmp 50) = u := ⟨_, rfl⟩
      have e50 := ev_of hu50
      rw [hu50] at hfin
      skip
      refine wpOp_plain rfl rfl ?_
      clear hd hs
      go_simp
      exact ⟨⟨_, rfl⟩, hfin, hOr.o0 8 (by omega)⟩
  · intro vs wq hl hR hv
    obtain ⟨v0, v1, v2, v3, v4, v5, v6, v7, v8, rfl⟩ := list_9 hl
    obtain rfl : .slice A9 le.length c9 = v1 := (hv 1 v1 rfl rfl).symm
    obtain rfl : .agg #[.int .u64 a, .int .u64 b, .int .u64 c, .string p, .string m] = v3 := (hv 3 v3 rfl rfl).symm
    obtain rfl : .agg #[.int .i64 0, .int .i64 3, .int .u64 a, .int .u64 b, .int .u64 c, .string p] = v4 := (hv 4 v4 rfl rfl).symm
    clear hv hl
    simp only [List.map_cons, List.map_nil, putAll, Act.put, List.setIfInBounds_toArray, List.set_cons_zero, List.set_cons_succ]
    have HI := hR (fun i => decide (i < 9)) (fun i hi => by simpa using hi) (fun i hi => by simpa using hi)
    have r7 := HI.1.v7 rfl
    have r8 := HI.1.v8 rfl
    have rE := HI.1.ent
    simp only [List.map_cons, List.map_nil, putAll, Act.put, List.setIfInBounds_toArray, List.set_cons_zero, List.set_cons_succ] at r7 r8
    replace r8 : v8 = v7 := r8
    subst r8
    obtain ⟨A10, c10, e10, hc10, hC10⟩ := r7
    replace e10 : v8 = .slice A10 (le ++ [[(⟨0, 3, a, b, c, p⟩ : S54)]]).length c10 := e10
    subst e10
    generalize le ++ [[(⟨0, 3, a, b, c, p⟩ : S54)]] = lo at *
    have hVq := (rE.block _ (blk_lt hV8)).trans hV8
    have hBq := chain hBW rE
    have HCe := Aside0.mk (C_slice_of (Kd.C_below hC8 rE) hBq)
    have HCo := Aside0.mk hC10
    have HGq := Aside0.mk (HGE.out.below hBq)
    clear hR HI hi2 rE hC10 hV8 hC8 hBW
    go_wp2_with fail
    refine region_row (id := 7) mixed (by kernel_rfl) (fun i _ v => match i with
        | 0 => v = .slice A9 le.length c9
        | 1 => v = .agg #[.int .u64 a, .int .u64 b, .int .u64 c, .string p, .string m]
        | 2 => v = .bool pre
        | 3 => v = .bool true
        | 4 => v = .slice A0 l0.length c0
        | 5 => v = .agg #[.int .u64 a, .int .u64 b, .int .u64 c, .string p, .string m]
        | 6 => v = .bool pre
        | 7 => v = .bool false
        | 8 => v = .bool false
        | 9 => v = .slice A1 l1.length c1
        | 10 => v = .agg #[.int .u64 a, .int .u64 b, .int .u64 c, .string p, .string m]
        | 11 => v = .bool pre
        | 12 => v = .bool true
        | 13 => v = .bool true
        | 14 => v = .bool true
        | 15 => v = .bool true
        | 16 => v = .slice A10 lo.length c10
        | 17 => v = .agg #[.int .u64 a, .int .u64 b, .int .u64 c, .string p, .string m]
        | 18 => v = .bool pre
        | 19 => v = .bool true
        | 20 => v = .bool true
        | 21 => v = .bool true
        | _ => True) Gr (Gr.refl _) Gr.trans ?_ ?_ ?_
    · exact fun h _ => h
    · refine ⟨?_, ?_, ?_, ?_, ?_, ?_, ?_, ?_, ?_, ?_, ?_, ?_, ?_, ?_, ?_, ?_, ?_, ?_, ?_, ?_, ?_, ?_, trivial⟩
      · intro x wx hR hd hs
        have e9 := ev_of (hs 9 (by kernel_rfl) : x.eval (.tmp 9) = .slice A9 le.length c9)
        clear hd hs
        refine wpOp_plain rfl rfl ?_
        go_simp
        exact ⟨_, rfl, rfl, Gr.refl _⟩
      · intro x wx hR hd hs
        have e6 := ev_of (hs 6 (by kernel_rfl) : x.eval (.tmp 6) = .pointer (some ⟨w.heap.size, 0, none⟩))
        have hbx := ((drew_chain hR).block _ (blk_lt hVq)).trans hVq
        have z0 : wx.cell? ⟨w.heap.size, 0, none⟩ = some (.int .u64 a) := (blk_cell hbx 0).trans rfl
        have z1 : wx.cell? ⟨w.heap.size, 1, none⟩ = some (.int .u64 b) := (blk_cell hbx 1).trans rfl
        have z2 : wx.cell? ⟨w.heap.size, 2, none⟩ = some (.int .u64 c) := (blk_cell hbx 2).trans rfl
        have z3 : wx.cell? ⟨w.heap.size, 3, none⟩ = some (.string p) := (blk_cell hbx 3).trans rfl
        have z4 : wx.cell? ⟨w.heap.size, 4, none⟩ = some (.string m) := (blk_cell hbx 4).trans rfl
        clear hd hs
        refine wpOp_plain rfl rfl ?_
        go_simp
        exact ⟨_, rfl, rfl, Gr.refl _⟩
      · intro x wx hR hd hs
        have e3 := ev_of (hs 3 (by kernel_rfl) : x.eval (.tmp 3) = .bool pre)
        clear hd hs
        refine wpOp_plain rfl rfl ?_
        go_simp
        exact ⟨_, rfl, rfl, Gr.refl _⟩
      · intro x wx hR hd hs
        have e51 := ev_of (hd 0 _ 51 rfl rfl (by kernel_rfl) : x.eval (.tmp 51) = .slice A9 le.length c9)
        have e52 := ev_of (hd 1 _ 52 rfl rfl (by kernel_rfl) : x.eval (.tmp 52) = .agg #[.int .u64 a, .int .u64 b, .int .u64 c, .string p, .string m])
        have e53 := ev_of (hd 2 _ 53 rfl rfl (by kernel_rfl) : x.eval (.tmp 53) = .bool pre)
        have hcx := Kd.C_below HCe.out (drew_chain hR)
        have HGx := HGq.out.below (drew_chain hR)
        clear hd hs
        refine wpOp_plain rfl rfl ?_
        go_simp
        refine (impl_TermsHold.calls A9 c9 le a b c p m pre _ _ hcx hc9 HGx HTE.out).mono ?_
        rintro e w1 ⟨rfl, hb⟩
        exact ⟨_, rfl, rfl, hb⟩
      · intro x wx hR hd hs
        have e0 := ev_of (hs 0 (by kernel_rfl) : x.eval (.tmp 0) = .slice A0 l0.length c0)
        clear hd hs
        refine wpOp_plain rfl rfl ?_
        go_simp
        exact ⟨_, rfl, rfl, Gr.refl _⟩
      · intro x wx hR hd hs
        have e6 := ev_of (hs 6 (by kernel_rfl) : x.eval (.tmp 6) = .pointer (some ⟨w.heap.size, 0, none⟩))
        have hbx := ((drew_chain hR).block _ (blk_lt hVq)).trans hVq
        have z0 : wx.cell? ⟨w.heap.size, 0, none⟩ = some (.int .u64 a) := (blk_cell hbx 0).trans rfl
        have z1 : wx.cell? ⟨w.heap.size, 1, none⟩ = some (.int .u64 b) := (blk_cell hbx 1).trans rfl
        have z2 : wx.cell? ⟨w.heap.size, 2, none⟩ = some (.int .u64 c) := (blk_cell hbx 2).trans rfl
        have z3 : wx.cell? ⟨w.heap.size, 3, none⟩ = some (.string p) := (blk_cell hbx 3).trans rfl
        have z4 : wx.cell? ⟨w.heap.size, 4, none⟩ = some (.string m) := (blk_cell hbx 4).trans rfl
        clear hd hs
        refine wpOp_plain rfl rfl ?_
        go_simp
        exact ⟨_, rfl, rfl, Gr.refl _⟩
      · intro x wx hR hd hs
        have e3 := ev_of (hs 3 (by kernel_rfl) : x.eval (.tmp 3) = .bool pre)
        clear hd hs
        refine wpOp_plain rfl rfl ?_
        go_simp
        exact ⟨_, rfl, rfl, Gr.refl _⟩
      · intro x wx hR hd hs
        have e55 := ev_of (hd 4 _ 55 rfl rfl (by kernel_rfl) : x.eval (.tmp 55) = .slice A0 l0.length c0)
        have e56 := ev_of (hd 5 _ 56 rfl rfl (by kernel_rfl) : x.eval (.tmp 56) = .agg #[.int .u64 a, .int .u64 b, .int .u64 c, .string p, .string m])
        have e57 := ev_of (hd 6 _ 57 rfl rfl (by kernel_rfl) : x.eval (.tmp 57) = .bool pre)
        have hcx := Kd.C_below HR0.out (chain hBq (drew_chain hR))
        have HGx := HGq.out.below (drew_chain hR)
        clear hd hs
        refine wpOp_plain rfl rfl ?_
        go_simp
        refine (impl_TermsHold.calls A0 c0 l0 a b c p m pre _ _ hcx HC0.out HGx HTC.out).mono ?_
        rintro e w1 ⟨rfl, hb⟩
        exact ⟨_, rfl, rfl, hb⟩
      · intro x wx hR hd hs
        have e58 := ev_of (hd 7 _ 58 rfl rfl (by kernel_rfl) : x.eval (.tmp 58) = .bool false)
        clear hd hs
        refine wpOp_plain rfl rfl ?_
        go_simp
        exact ⟨_, rfl, rfl, Gr.refl _⟩
      · intro x wx hR hd hs
        have e1 := ev_of (hs 1 (by kernel_rfl) : x.eval (.tmp 1) = .slice A1 l1.length c1)
        have ey : x.eval (.tmp 59) = .bool false := hd 8 _ 59 rfl rfl (by kernel_rfl)
        clear hd hs
        refine wpOp_guarded rfl rfl (yielded_of rfl rfl ey) (fun _ => ?_) (fun hc => absurd rfl hc)
        go_simp
        exact ⟨_, rfl, rfl, Gr.refl _⟩
      · intro x wx hR hd hs
        have e6 := ev_of (hs 6 (by kernel_rfl) : x.eval (.tmp 6) = .pointer (some ⟨w.heap.size, 0, none⟩))
        have ey : x.eval (.tmp 59) = .bool false := hd 8 _ 59 rfl rfl (by kernel_rfl)
        have hbx := ((drew_chain hR).block _ (blk_lt hVq)).trans hVq
        have z0 : wx.cell? ⟨w.heap.size, 0, none⟩ = some (.int .u64 a) := (blk_cell hbx 0).trans rfl
        have z1 : wx.cell? ⟨w.heap.size, 1, none⟩ = some (.int .u64 b) := (blk_cell hbx 1).trans rfl
        have z2 : wx.cell? ⟨w.heap.size, 2, none⟩ = some (.int .u64 c) := (blk_cell hbx 2).trans rfl
        have z3 : wx.cell? ⟨w.heap.size, 3, none⟩ = some (.string p) := (blk_cell hbx 3).trans rfl
        have z4 : wx.cell? ⟨w.heap.size, 4, none⟩ = some (.string m) := (blk_cell hbx 4).trans rfl
        clear hd hs
        refine wpOp_guarded rfl rfl (yielded_of rfl rfl ey) (fun _ => ?_) (fun hc => absurd rfl hc)
        go_simp
        exact ⟨_, rfl, rfl, Gr.refl _⟩
      · intro x wx hR hd hs
        have e3 := ev_of (hs 3 (by kernel_rfl) : x.eval (.tmp 3) = .bool pre)
        have ey : x.eval (.tmp 59) = .bool false := hd 8 _ 59 rfl rfl (by kernel_rfl)
        clear hd hs
        refine wpOp_guarded rfl rfl (yielded_of rfl rfl ey) (fun _ => ?_) (fun hc => absurd rfl hc)
        go_simp
        exact ⟨_, rfl, rfl, Gr.refl _⟩
      · intro x wx hR hd hs
        have e60 := ev_of (hd 9 _ 60 rfl rfl (by kernel_rfl) : x.eval (.tmp 60) = .slice A1 l1.length c1)
        have e61 := ev_of (hd 10 _ 61 rfl rfl (by kernel_rfl) : x.eval (.tmp 61) = .agg #[.int .u64 a, .int .u64 b, .int .u64 c, .string p, .string m])
        have e62 := ev_of (hd 11 _ 62 rfl rfl (by kernel_rfl) : x.eval (.tmp 62) = .bool pre)
        have ey : x.eval (.tmp 59) = .bool false := hd 8 _ 59 rfl rfl (by kernel_rfl)
        have hcx := Kd.C_below HR1.out (chain hBq (drew_chain hR))
        have HGx := HGq.out.below (drew_chain hR)
        clear hd hs
        refine wpOp_guarded rfl rfl (yielded_of rfl rfl ey) (fun _ => ?_) (fun hc => absurd rfl hc)
        go_simp
        refine (impl_TermsHold.calls A1 c1 l1 a b c p m pre _ _ hcx HC1.out HGx HTD.out).mono ?_
        rintro e w1 ⟨rfl, hb⟩
        exact ⟨_, rfl, rfl, hb⟩
      · intro x wx hR hd hs
        have e59 := ev_of (hd 8 _ 59 rfl rfl (by kernel_rfl) : x.eval (.tmp 59) = .bool false)
        have e63 := ev_of (hd 12 _ 63 rfl rfl (by kernel_rfl) : x.eval (.tmp 63) = .bool true)
        clear hd hs
        refine wpOp_plain rfl rfl ?_
        go_simp
        exact ⟨_, rfl, rfl, Gr.refl _⟩
      · intro x wx hR hd hs
        have e54 := ev_of (hd 3 _ 54 rfl rfl (by kernel_rfl) : x.eval (.tmp 54) = .bool true)
        have e64 := ev_of (hd 13 _ 64 rfl rfl (by kernel_rfl) : x.eval (.tmp 64) = .bool true)
        clear hd hs
        refine wpOp_plain rfl rfl ?_
        go_simp
        exact ⟨_, rfl, rfl, Gr.refl _⟩
      · intro x wx hR hd hs
        have e65 := ev_of (hd 14 _ 65 rfl rfl (by kernel_rfl) : x.eval (.tmp 65) = .bool true)
        clear hd hs
        refine wpOp_plain rfl rfl ?_
        go_simp
        exact ⟨_, rfl, rfl, Gr.refl _⟩
      · intro x wx hR hd hs
        have e10 := ev_of (hs 10 (by kernel_rfl) : x.eval (.tmp 10) = .slice A10 lo.length c10)
        have ey : x.eval (.tmp 66) = .bool true := hd 15 _ 66 rfl rfl (by kernel_rfl)
        clear hd hs
        refine wpOp_guarded rfl rfl (yielded_of rfl rfl ey) (fun _ => ?_) (fun hc => absurd rfl hc)
        go_simp
        exact ⟨_, rfl, rfl, Gr.refl _⟩
      · intro x wx hR hd hs
        have e6 := ev_of (hs 6 (by kernel_rfl) : x.eval (.tmp 6) = .pointer (some ⟨w.heap.size, 0, none⟩))
        have ey : x.eval (.tmp 66) = .bool true := hd 15 _ 66 rfl rfl (by kernel_rfl)
        have hbx := ((drew_chain hR).block _ (blk_lt hVq)).trans hVq
        have z0 : wx.cell? ⟨w.heap.size, 0, none⟩ = some (.int .u64 a) := (blk_cell hbx 0).trans rfl
        have z1 : wx.cell? ⟨w.heap.size, 1, none⟩ = some (.int .u64 b) := (blk_cell hbx 1).trans rfl
        have z2 : wx.cell? ⟨w.heap.size, 2, none⟩ = some (.int .u64 c) := (blk_cell hbx 2).trans rfl
        have z3 : wx.cell? ⟨w.heap.size, 3, none⟩ = some (.string p) := (blk_cell hbx 3).trans rfl
        have z4 : wx.cell? ⟨w.heap.size, 4, none⟩ = some (.string m) := (blk_cell hbx 4).trans rfl
        clear hd hs
        refine wpOp_guarded rfl rfl (yielded_of rfl rfl ey) (fun _ => ?_) (fun hc => absurd rfl hc)
        go_simp
        exact ⟨_, rfl, rfl, Gr.refl _⟩
      · intro x wx hR hd hs
        have e3 := ev_of (hs 3 (by kernel_rfl) : x.eval (.tmp 3) = .bool pre)
        have ey : x.eval (.tmp 66) = .bool true := hd 15 _ 66 rfl rfl (by kernel_rfl)
        clear hd hs
        refine wpOp_guarded rfl rfl (yielded_of rfl rfl ey) (fun _ => ?_) (fun hc => absurd rfl hc)
        go_simp
        exact ⟨_, rfl, rfl, Gr.refl _⟩
      · intro x wx hR hd hs
        have e67 := ev_of (hd 16 _ 67 rfl rfl (by kernel_rfl) : x.eval (.tmp 67) = .slice A10 lo.length c10)
        have e68 := ev_of (hd 17 _ 68 rfl rfl (by kernel_rfl) : x.eval (.tmp 68) = .agg #[.int .u64 a, .int .u64 b, .int .u64 c, .string p, .string m])
        have e69 := ev_of (hd 18 _ 69 rfl rfl (by kernel_rfl) : x.eval (.tmp 69) = .bool pre)
        have ey : x.eval (.tmp 66) = .bool true := hd 15 _ 66 rfl rfl (by kernel_rfl)
        have hcx := Kd.C_below HCo.out (drew_chain hR)
        have HGx := HGq.out.below (drew_chain hR)
        clear hd hs
        refine wpOp_guarded rfl rfl (yielded_of rfl rfl ey) (fun _ => ?_) (fun hc => absurd rfl hc)
        go_simp
        refine (impl_TermsHold.calls A10 c10 lo a b c p m pre _ _ hcx hc10 HGx HTO.out).mono ?_
        rintro e w1 ⟨rfl, hb⟩
        exact ⟨_, rfl, rfl, hb⟩
      · intro x wx hR hd hs
        have e66 := ev_of (hd 15 _ 66 rfl rfl (by kernel_rfl) : x.eval (.tmp 66) = .bool true)
        have e70 := ev_of (hd 19 _ 70 rfl rfl (by kernel_rfl) : x.eval (.tmp 70) = .bool true)
        clear hd hs
        refine wpOp_plain rfl rfl ?_
        go_simp
        exact ⟨_, rfl, rfl, Gr.refl _⟩
      · intro x wx hR hd hs
        have e71 := ev_of (hd 20 _ 71 rfl rfl (by kernel_rfl) : x.eval (.tmp 71) = .bool true)
        clear hd hs
        refine wpOp_plain rfl rfl ?_
        go_simp
        exact ⟨_, rfl, rfl, Gr.refl _⟩
    · intro vs wz hl hRr hv
      obtain ⟨v0, v1, v2, v3, v4, v5, v6, v7, v8, v9, v10, v11, v12, v13, v14, v15, v16, v17, v18, v19, v20, v21, rfl⟩ := list_22 hl
      obtain rfl : .slice A9 le.length c9 = v0 := (hv 0 v0 rfl).symm
      obtain rfl : .agg #[.int .u64 a, .int .u64 b, .int .u64 c, .string p, .string m] = v1 := (hv 1 v1 rfl).symm
      obtain rfl : .bool pre = v2 := (hv 2 v2 rfl).symm
      obtain rfl : .bool true = v3 := (hv 3 v3 rfl).symm
      obtain rfl : .slice A0 l0.length c0 = v4 := (hv 4 v4 rfl).symm
      obtain rfl : .agg #[.int .u64 a, .int .u64 b, .int .u64 c, .string p, .string m] = v5 := (hv 5 v5 rfl).symm
      obtain rfl : .bool pre = v6 := (hv 6 v6 rfl).symm
      obtain rfl : .bool false = v7 := (hv 7 v7 rfl).symm
      obtain rfl : .bool false = v8 := (hv 8 v8 rfl).symm
      obtain rfl : .slice A1 l1.length c1 = v9 := (hv 9 v9 rfl).symm
      obtain rfl : .agg #[.int .u64 a, .int .u64 b, .int .u64 c, .string p, .string m] = v10 := (hv 10 v10 rfl).symm
      obtain rfl : .bool pre = v11 := (hv 11 v11 rfl).symm
      obtain rfl : .bool true = v12 := (hv 12 v12 rfl).symm
      obtain rfl : .bool true = v13 := (hv 13 v13 rfl).symm
      obtain rfl : .bool true = v14 := (hv 14 v14 rfl).symm
      obtain rfl : .bool true = v15 := (hv 15 v15 rfl).symm
      obtain rfl : .slice A10 lo.length c10 = v16 := (hv 16 v16 rfl).symm
      obtain rfl : .agg #[.int .u64 a, .int .u64 b, .int .u64 c, .string p, .string m] = v17 := (hv 17 v17 rfl).symm
      obtain rfl : .bool pre = v18 := (hv 18 v18 rfl).symm
      obtain rfl : .bool true = v19 := (hv 19 v19 rfl).symm
      obtain rfl : .bool true = v20 := (hv 20 v20 rfl).symm
      obtain rfl : .bool true = v21 := (hv 21 v21 rfl).symm
      clear hv hl
      simp only [List.map_cons, List.map_nil, putAll, Act.put, List.setIfInBounds_toArray, List.set_cons_zero, List.set_cons_succ]
      go_wp2
      go_ret
      exact ⟨rfl, chain hBq (drew_chain hRr)⟩

set_option maxRecDepth 100000 in
set_option maxHeartbeats 8000000 in
theorem either_ff (k : Nat) (A0 : Option Addr) (c0 : Nat) (l0 : List (List S54)) (A1 : Option Addr) (c1 : Nat) (l1 : List (List S54)) (a b c : Int) (p m : ByteArray) (pre : Bool) (w : World) (hr0 : Kd.C (Kd.slice 54 k54) w A0 l0.length l0) (hc0 : l0.length ≤ c0) (hr1 : Kd.C (Kd.slice 54 k54) w A1 l1.length l1) (hc1 : l1.length ≤ c1) (hA : laws_zzFits11.f k l0 = some true) (hB : laws_zzFits11.f k l1 = some true) (hV : laws_zzFits14.f a b c p m = some true) (hC : laws_scGood.f k l0 = some true) (hD : laws_scGood.f k l1 = some true) (hG : laws_svGood.f k [(⟨a, b, c, p, m⟩ : S27)] = some true) (hGE : GE w) (hl0 : l0.length ≤ 2147483647) (hl1 : l1.length ≤ 2147483647)
    (hTE : impl_TermsHold.f (l0 ++ l1) a b c p m pre = some false) (hTC : impl_TermsHold.f l0 a b c p m pre = some false) (hTD : impl_TermsHold.f l1 a b c p m pre = some false) (hTO : impl_TermsHold.f ((l0 ++ l1) ++ [[(⟨0, 3, a, b, c, p⟩ : S54)]]) a b c p m pre = some true) :
    Calls Tryd.prog 17 #[.slice A0 l0.length c0, .slice A1 l1.length c1, .agg #[.int .u64 a, .int .u64 b, .int .u64 c, .string p, .string m], .bool pre] w fun e w' => e = .returned (.bool true) ∧ Below w.heap.size w w' := by
  have hu27 := Tryd.underlying27
  have hu67 := Tryd.underlying67
  have HR0 := Aside0.mk hr0
  have HC0 := Aside0.mk hc0
  have HR1 := Aside0.mk hr1
  have HC1 := Aside0.mk hc1
  have V0 := heap_alloc_new w (.cells #[.int .u64 a, .int .u64 b, .int .u64 c, .string p, .string m] 27)
  have B0 := Aside0.mk (below_new w (.cells #[.int .u64 a, .int .u64 b, .int .u64 c, .string p, .string m] 27))
  have z0 : (w.alloc (.cells #[.int .u64 a, .int .u64 b, .int .u64 c, .string p, .string m] 27)).cell? ⟨w.heap.size, 0, none⟩ = some (.int .u64 a) := (blk_cell V0 0).trans rfl
  have z1 : (w.alloc (.cells #[.int .u64 a, .int .u64 b, .int .u64 c, .string p, .string m] 27)).cell? ⟨w.heap.size, 1, none⟩ = some (.int .u64 b) := (blk_cell V0 1).trans rfl
  have z2 : (w.alloc (.cells #[.int .u64 a, .int .u64 b, .int .u64 c, .string p, .string m] 27)).cell? ⟨w.heap.size, 2, none⟩ = some (.int .u64 c) := (blk_cell V0 2).trans rfl
  have z3 : (w.alloc (.cells #[.int .u64 a, .int .u64 b, .int .u64 c, .string p, .string m] 27)).cell? ⟨w.heap.size, 3, none⟩ = some (.string p) := (blk_cell V0 3).trans rfl
  have z4 : (w.alloc (.cells #[.int .u64 a, .int .u64 b, .int .u64 c, .string p, .string m] 27)).cell? ⟨w.heap.size, 4, none⟩ = some (.string m) := (blk_cell V0 4).trans rfl
  replace V0 := Aside0.mk V0
  clear hr0 hc0 hr1 hc1
  have HA := Aside0.mk hA
  have HB := Aside0.mk hB
  have HV := Aside0.mk hV
  have HC := Aside0.mk hC
  have HD := Aside0.mk hD
  have HG := Aside0.mk hG
  have HGE := Aside0.mk hGE
  have HL0 := Aside0.mk hl0
  have HL1 := Aside0.mk hl1
  have HTE := Aside0.mk hTE
  have HTC := Aside0.mk hTC
  have HTD := Aside0.mk hTD
  have HTO := Aside0.mk hTO
  have hst : laws_stTerm.f 0 a b c p m 3 = some (0, 3, a, b, c, p) := by
    have h1 : (3 : Int) > 1 := by decide
    have h2 : (3 : Int) > 2 := by decide
    unfold laws_stTerm.f
    rw [if_pos h1, if_pos h2, if_pos h2]
  clear hA hB hV hC hD hG hTD hGE hl0 hl1 hTE hTC hTO
  go_enter Tryd.func17, Tryd.ntmps17
  go_wp2_with (first | (first | (go_at_call 68; clear z0 z1 z2 z3 z4; refine (laws_zzFits11.calls k A0 c0 l0 _ _ (Kd.C_below HR0.out B0.out) HC0.out HA.out).mono ?_; rintro e w1 ⟨rfl, hb⟩; have B1 : Aside0 (Below w.heap.size w w1) := Aside0.mk (chain B0.out hb); have V1 := (hb.block _ (blk_lt V0.out)).trans V0.out; have z0 : w1.cell? ⟨w.heap.size, 0, none⟩ = some (.int .u64 a) := (blk_cell V1 0).trans rfl; have z1 : w1.cell? ⟨w.heap.size, 1, none⟩ = some (.int .u64 b) := (blk_cell V1 1).trans rfl; have z2 : w1.cell? ⟨w.heap.size, 2, none⟩ = some (.int .u64 c) := (blk_cell V1 2).trans rfl; have z3 : w1.cell? ⟨w.heap.size, 3, none⟩ = some (.string p) := (blk_cell V1 3).trans rfl; have z4 : w1.cell? ⟨w.heap.size, 4, none⟩ = some (.string m) := (blk_cell V1 4).trans rfl; replace V1 := Aside0.mk V1; clear hb HA) | (go_at_call 68; clear z0 z1 z2 z3 z4; refine (laws_zzFits11.calls k A1 c1 l1 _ _ (Kd.C_below HR1.out B1.out) HC1.out HB.out).mono ?_; rintro e w2 ⟨rfl, hb⟩; have B2 : Aside0 (Below w.heap.size w w2) := Aside0.mk (chain B1.out hb); have V2 := (hb.block _ (blk_lt V1.out)).trans V1.out; have z0 : w2.cell? ⟨w.heap.size, 0, none⟩ = some (.int .u64 a) := (blk_cell V2 0).trans rfl; have z1 : w2.cell? ⟨w.heap.size, 1, none⟩ = some (.int .u64 b) := (blk_cell V2 1).trans rfl; have z2 : w2.cell? ⟨w.heap.size, 2, none⟩ = some (.int .u64 c) := (blk_cell V2 2).trans rfl; have z3 : w2.cell? ⟨w.heap.size, 3, none⟩ = some (.string p) := (blk_cell V2 3).trans rfl; have z4 : w2.cell? ⟨w.heap.size, 4, none⟩ = some (.string m) := (blk_cell V2 4).trans rfl; replace V2 := Aside0.mk V2; clear hb HB)) | (go_at_call 24; clear z0 z1 z2 z3 z4; refine (laws_zzFits14.calls _ _ _ _ _ _ _ HV.out).mono ?_; rintro e w3 ⟨rfl, hb⟩; have B3 : Aside0 (Below w.heap.size w w3) := Aside0.mk (chain B2.out hb); have V3 := (hb.block _ (blk_lt V2.out)).trans V2.out; have z0 : w3.cell? ⟨w.heap.size, 0, none⟩ = some (.int .u64 a) := (blk_cell V3 0).trans rfl; have z1 : w3.cell? ⟨w.heap.size, 1, none⟩ = some (.int .u64 b) := (blk_cell V3 1).trans rfl; have z2 : w3.cell? ⟨w.heap.size, 2, none⟩ = some (.int .u64 c) := (blk_cell V3 2).trans rfl; have z3 : w3.cell? ⟨w.heap.size, 3, none⟩ = some (.string p) := (blk_cell V3 3).trans rfl; have z4 : w3.cell? ⟨w.heap.size, 4, none⟩ = some (.string m) := (blk_cell V3 4).trans rfl; replace V3 := Aside0.mk V3; clear hb) | (first | (go_at_call 69; clear z0 z1 z2 z3 z4; refine (laws_scGood.calls k A0 c0 l0 _ _ (Kd.C_below HR0.out B3.out) HC0.out HC.out).mono ?_; rintro e w4 ⟨rfl, hb⟩; have B4 : Aside0 (Below w.heap.size w w4) := Aside0.mk (chain B3.out hb); have V4 := (hb.block _ (blk_lt V3.out)).trans V3.out; have z0 : w4.cell? ⟨w.heap.size, 0, none⟩ = some (.int .u64 a) := (blk_cell V4 0).trans rfl; have z1 : w4.cell? ⟨w.heap.size, 1, none⟩ = some (.int .u64 b) := (blk_cell V4 1).trans rfl; have z2 : w4.cell? ⟨w.heap.size, 2, none⟩ = some (.int .u64 c) := (blk_cell V4 2).trans rfl; have z3 : w4.cell? ⟨w.heap.size, 3, none⟩ = some (.string p) := (blk_cell V4 3).trans rfl; have z4 : w4.cell? ⟨w.heap.size, 4, none⟩ = some (.string m) := (blk_cell V4 4).trans rfl; replace V4 := Aside0.mk V4; clear hb HC) | (go_at_call 69; clear z0 z1 z2 z3 z4; refine (laws_scGood.calls k A1 c1 l1 _ _ (Kd.C_below HR1.out B4.out) HC1.out HD.out).mono ?_; rintro e w5 ⟨rfl, hb⟩; have B5 : Aside0 (Below w.heap.size w w5) := Aside0.mk (chain B4.out hb); have V5 := (hb.block _ (blk_lt V4.out)).trans V4.out; have z0 : w5.cell? ⟨w.heap.size, 0, none⟩ = some (.int .u64 a) := (blk_cell V5 0).trans rfl; have z1 : w5.cell? ⟨w.heap.size, 1, none⟩ = some (.int .u64 b) := (blk_cell V5 1).trans rfl; have z2 : w5.cell? ⟨w.heap.size, 2, none⟩ = some (.int .u64 c) := (blk_cell V5 2).trans rfl; have z3 : w5.cell? ⟨w.heap.size, 3, none⟩ = some (.string p) := (blk_cell V5 3).trans rfl; have z4 : w5.cell? ⟨w.heap.size, 4, none⟩ = some (.string m) := (blk_cell V5 4).trans rfl; replace V5 := Aside0.mk V5; clear hb HD)) | (go_at_call 29; clear z0 z1 z2 z3 z4; refine (laws_svGood.calls k (some ⟨w5.heap.size, 0, none⟩) 1 [(⟨a, b, c, p, m⟩ : S27)] _ (w5.alloc (.cells #[.int .u64 a, .int .u64 b, .int .u64 c, .string p, .string m] 27)) (C_one27 w5 ⟨a, b, c, p, m⟩) (Nat.le_refl 1) HG.out).mono ?_; rintro e w6 ⟨rfl, hb⟩; have B6 : Aside0 (Below w.heap.size w w6) := Aside0.mk (chain (chain B5.out (below_new w5 (.cells #[.int .u64 a, .int .u64 b, .int .u64 c, .string p, .string m] 27))) hb); have V6 := (hb.block _ (Nat.lt_of_lt_of_le (blk_lt V5.out) (below_new w5 (.cells #[.int .u64 a, .int .u64 b, .int .u64 c, .string p, .string m] 27)).size)).trans (((below_new w5 (.cells #[.int .u64 a, .int .u64 b, .int .u64 c, .string p, .string m] 27)).block _ (blk_lt V5.out)).trans V5.out); have z0 : w6.cell? ⟨w.heap.size, 0, none⟩ = some (.int .u64 a) := (blk_cell V6 0).trans rfl; have z1 : w6.cell? ⟨w.heap.size, 1, none⟩ = some (.int .u64 b) := (blk_cell V6 1).trans rfl; have z2 : w6.cell? ⟨w.heap.size, 2, none⟩ = some (.int .u64 c) := (blk_cell V6 2).trans rfl; have z3 : w6.cell? ⟨w.heap.size, 3, none⟩ = some (.string p) := (blk_cell V6 3).trans rfl; have z4 : w6.cell? ⟨w.heap.size, 4, none⟩ = some (.string m) := (blk_cell V6 4).trans rfl; replace V6 := Aside0.mk V6; clear hb) | ((with_reducible refine gate_builtin (b := .append) (xs := #[.tmp 38, .tmp 39]) rfl ?_); at_builtin; refine Kd.R_append_rows (kI w) (Rr := (Kd.slice 54 k54).K w) (w0 := w6) w6.heap.size rfl (.tmp 38) (.tmp 39) 67 69 (.slice none 0 0) 24 rfl Tryd.underlying67 info69 rfl Nat.zero_lt_one (by omega) (.slice (some ⟨w6.heap.size, 0, none⟩) 0 0) [] l0 A0 l0.length c0 (fun _ => True) (fun _ => False) rfl rfl (R_empty69 w w6) ?hR (fun _ _ h => h) (fun _ h => h.elim) (fun _ _ => trivial) (below_new w6 (.cells #[] 69)) ((below_new w6 (.cells #[] 69))).size ?hL ?_; (case hR => exact ReadsRow.imp_ HR0.out (chain B6.out ((below_new w6 (.cells #[] 69)))) (fun _ _ h => h)); (case hL => have := HL0.out; have := HL1.out; (try simp only [List.length_nil]); omega); intro v7 w7 ho hb hg hat; rw [List.nil_append] at ho; have O7 := Aside0.mk ho; have B7 := Aside0.mk hb; clear ho hb hg hat) | ((with_reducible refine gate_builtin (b := .append) (xs := #[.tmp 40, .tmp 41]) rfl ?_); at_builtin; refine Kd.R_append_rows (kI w) (Rr := (Kd.slice 54 k54).K w) (w0 := w6) w6.heap.size rfl (.tmp 40) (.tmp 41) 67 69 (.slice none 0 0) 24 rfl Tryd.underlying67 info69 rfl Nat.zero_lt_one (by omega) v7 l0 l1 A1 l1.length c1 (fun _ => True) (fun _ => False) rfl rfl O7.out ?hR (fun _ _ h => h) (fun _ h => h.elim) (fun _ _ => trivial) B7.out (B7.out).size ?hL ?_; (case hR => exact ReadsRow.imp_ HR1.out (chain B6.out (B7.out)) (fun _ _ h => h)); (case hL => have := HL0.out; have := HL1.out; (try simp only [List.length_nil]); omega); intro v8 w8 ho hb hg hat; have O8 := Aside0.mk ho; have B8 := Aside0.mk hb; clear ho hb hg hat))
  clear z0 z1 z2 z3 z4
  have hV8 := (B8.out.block _ (blk_lt V6.out)).trans V6.out
  obtain ⟨A9, c9, e9, hc9, hC9⟩ := Kd.R_reads O8.out
  subst e9
  have HLe : Aside0 ((l0 ++ l1).length ≤ 4294967294) := ⟨by have := HL0.out; have := HL1.out; rw [List.length_append]; omega⟩
  clear O8 O7
  generalize l0 ++ l1 = le at *
  obtain ⟨W0, hW0⟩ : ∃ W0, w8.drew = W0 := ⟨_, rfl⟩
  have hBW : Below w.heap.size w W0 := by rw [← hW0]; exact chain B6.out (chain B8.out (drew_chain (Below.refl _ _)))
  have hC8 : Kd.C (kI w) W0 A9 le.length le := by rw [← hW0]; exact Kd.C_below hC9 (drew_chain (Below.refl _ _))
  replace hV8 : W0.heap[w.heap.size]? = some (.cells #[.int .u64 a, .int .u64 b, .int .u64 c, .string p, .string m] 27 (0, 0)) := by rw [← hW0]; exact hV8
  have hi2 : ∀ x : Act, 72 ≤ x.tmps.size → EInv w W0 le (⟨0, 3, a, b, c, p⟩ : S54) (fun _ => false) x w8.drew := by rw [hW0]; exact fun x hx => EInv.init hx
  refine region_row2 (id := 6) mixed (by kernel_rfl) (fun i _ v => match i with
      | 0 => True
      | 1 => v = .slice A9 le.length c9
      | 2 => True
      | 3 => v = .agg #[.int .u64 a, .int .u64 b, .int .u64 c, .string p, .string m]
      | 4 => v = .agg #[.int .i64 0, .int .i64 3, .int .u64 a, .int .u64 b, .int .u64 c, .string p]
      | 5 => True
      | 6 => True
      | 7 => True
      | 8 => True
      | _ => True) (fun a b : World => a.heap.size ≤ b.heap.size) (fun L x wx => EInv w W0 le (⟨0, 3, a, b, c, p⟩ : S54) L x wx ∧ Ord L) ⟨hi2 _ (by simp), Ord.init⟩ ?_ ?_ ?_
  · exact fun h _ => h
  · refine ⟨?_, ?_, ?_, ?_, ?_, ?_, ?_, ?_, ?_, trivial⟩
    · intro x wx L hI hA hB hd hs
      obtain ⟨hI, hOr⟩ := hI
      have L2 := hB 2 (by kernel_rfl)
      have L5 := hB 5 (by kernel_rfl)
      have L6 := hB 6 (by kernel_rfl)
      have L7 := hB 7 (by kernel_rfl)
      have L8 := hB 8 (by kernel_rfl)
      clear hd hs
      refine wpOp_plain rfl rfl ?_
      go_simp
      exact ⟨⟨_, rfl⟩, hI.lit0 L2 L5 L6 L7 L8, hOr.o0 0 (by omega)⟩
    · intro x wx L hI hA hB hd hs
      have e9 := ev_of (hs 9 (by kernel_rfl) : x.eval (.tmp 9) = .slice A9 le.length c9)
      obtain ⟨hI, hOr⟩ := hI
      clear hd hs
      refine wpOp_plain rfl rfl ?_
      go_simp
      exact ⟨_, rfl, rfl, hI.step (Below.refl _ _) (.inl rfl) (.inl rfl), hOr.o0 1 (by omega)⟩
    · intro x wx L hI hA hB hd hs
      obtain ⟨hI, hOr⟩ := hI
      have L5 := hB 5 (by kernel_rfl)
      have L6 := hB 6 (by kernel_rfl)
      have L7 := hB 7 (by kernel_rfl)
      have L8 := hB 8 (by kernel_rfl)
      have e44 : x.eval (.tmp 44) = .slice A9 le.length c9 := hd 1 _ 44 rfl rfl (by kernel_rfl)
      have hO := hI.v0 (hA 0 (by kernel_rfl)) (hB 2 (by kernel_rfl))
      obtain ⟨u43, hu43⟩ : ∃ u, x.eval (.tmp 43) = u := ⟨_, rfl⟩
      rw [hu43] at hO
      skip
      refine wpOp_plain rfl rfl ?_
      clear hd hs
      refine rows_wp (kI w) (Rr := (kI w).K w) (w0 := W0) W0.heap.size rfl (.tmp 43) (.tmp 44) 67 69 (.slice none 0 0) 24 rfl Tryd.underlying67 info69 rfl Nat.zero_lt_one (by omega) u43 [] le A9 le.length c9 (fun _ => True) (fun _ => False) hu43 e44 hO (Kd.C_below hC8 hI.ent) (fun _ _ h => h) (fun _ h => h.elim) (fun _ _ => trivial) hI.ent hI.ent.size (by have := HLe.out; simp only [List.length_nil]; omega) ?_
      intro v1 w1 ho hb hg hat
      rw [List.nil_append] at ho
      exact ⟨v1, rfl, fun _ => trivial, hg.size, ⟨hI.join L5 L6 L7 L8 ho hb, hOr.o0 2 (by omega)⟩⟩
    · intro x wx L hI hA hB hd hs
      have e6 := ev_of (hs 6 (by kernel_rfl) : x.eval (.tmp 6) = .pointer (some ⟨w.heap.size, 0, none⟩))
      obtain ⟨hI, hOr⟩ := hI
      have hbx := (hI.ent.block _ (blk_lt hV8)).trans hV8
      have z0 : wx.cell? ⟨w.heap.size, 0, none⟩ = some (.int .u64 a) := (blk_cell hbx 0).trans rfl
      have z1 : wx.cell? ⟨w.heap.size, 1, none⟩ = some (.int .u64 b) := (blk_cell hbx 1).trans rfl
      have z2 : wx.cell? ⟨w.heap.size, 2, none⟩ = some (.int .u64 c) := (blk_cell hbx 2).trans rfl
      have z3 : wx.cell? ⟨w.heap.size, 3, none⟩ = some (.string p) := (blk_cell hbx 3).trans rfl
      have z4 : wx.cell? ⟨w.heap.size, 4, none⟩ = some (.string m) := (blk_cell hbx 4).trans rfl
      clear hd hs
      refine wpOp_plain rfl rfl ?_
      go_simp
      exact ⟨_, rfl, rfl, hI.step (Below.refl _ _) (.inr (.inl rfl)) (.inr (.inl rfl)), hOr.o0 3 (by omega)⟩
    · intro x wx L hI hA hB hd hs
      have e46 := ev_of (hd 3 _ 46 rfl rfl (by kernel_rfl) : x.eval (.tmp 46) = .agg #[.int .u64 a, .int .u64 b, .int .u64 c, .string p, .string m])
      obtain ⟨hI, hOr⟩ := hI
      have L2 := hA 2 (by kernel_rfl)
      clear hd hs
      refine wpOp_plain rfl rfl ?_
      go_simp
      refine (laws_stTerm.calls 0 a b c p m 3 0 3 a b c p _ hst).mono ?_
      rintro e w1 ⟨rfl, hb⟩
      exact ⟨_, rfl, rfl, hb.size, hI.step hb (.inr (.inr rfl)) (.inr (.inr rfl)), hOr.o4 L2⟩
    · intro x wx L hI hA hB hd hs
      have e47 := ev_of (hd 4 _ 47 rfl rfl (by kernel_rfl) : x.eval (.tmp 47) = .agg #[.int .i64 0, .int .i64 3, .int .u64 a, .int .u64 b, .int .u64 c, .string p])
      obtain ⟨hI, hOr⟩ := hI
      have L4 := hA 4 (by kernel_rfl)
      have L2 := hOr.1 L4
      have L6 := hB 6 (by kernel_rfl)
      have L7 := hB 7 (by kernel_rfl)
      have L8 := hB 8 (by kernel_rfl)
      clear hd hs
      refine wpOp_plain rfl rfl ?_
      go_simp
      exact ⟨⟨_, rfl⟩, hI.lit5 L2 L6 L7 L8, hOr.o5 L4⟩
    · intro x wx L hI hA hB hd hs
      obtain ⟨hI, hOr⟩ := hI
      have L5 := hA 5 (by kernel_rfl)
      have L2 := hOr.1 (hOr.2.1 L5)
      have L7 := hB 7 (by kernel_rfl)
      have L8 := hB 8 (by kernel_rfl)
      obtain ⟨g, hu48, hC6, hne6, hlt6⟩ := hI.v5 L5 L7
      have e48 := ev_of hu48
      skip
      refine wpOp_plain rfl rfl ?_
      clear hd hs
      go_simp
      exact ⟨⟨_, rfl⟩, hI.lit6 L2 L5 L7 L8 hu48, hOr.o6 L5⟩
    · intro x wx L hI hA hB hd hs
      obtain ⟨hI, hOr⟩ := hI
      have L6 := hA 6 (by kernel_rfl)
      have L5 := hOr.2.2.1 L6
      have L2 := hA 2 (by kernel_rfl)
      have L7 := hB 7 (by kernel_rfl)
      have L8 := hB 8 (by kernel_rfl)
      obtain ⟨g, g1, hu48, hu49, hblk⟩ := hI.v6 L6 L7
      obtain ⟨g2, hu48b, hC7, hne7, hlt7⟩ := hI.v5 L5 L7
      obtain rfl : g2 = g := by
        rw [hu48] at hu48b
        simpa using hu48b.symm
      have hO := hI.v2 L2 L7
      obtain ⟨u45, hu45⟩ : ∃ u, x.eval (.tmp 45) = u := ⟨_, rfl⟩
      rw [hu45] at hO hne7
      skip
      refine wpOp_plain rfl rfl ?_
      clear hd hs
      refine rows_wp (kJ w g2 (⟨0, 3, a, b, c, p⟩ : S54)) (Rr := fun x cs => cs = [.slice (some ⟨g2, 0, none⟩) 1 1] ∧ x = [(⟨0, 3, a, b, c, p⟩ : S54)]) (w0 := W0) W0.heap.size rfl (.tmp 45) (.tmp 49) 67 69 (.slice none 0 0) 24 rfl Tryd.underlying67 info69 rfl Nat.zero_lt_one (by omega) u45 le [[(⟨0, 3, a, b, c, p⟩ : S54)]] (some ⟨g1, 0, none⟩) 1 1 (fun _ => True) (fun _ => False) hu45 hu49 (kJ_of_kI g2 (⟨0, 3, a, b, c, p⟩ : S54) hO) (row69 hblk) (fun x cs h => by obtain ⟨h1, h2⟩ := h; subst h2; exact ⟨_, _, h1, Nat.le_refl 1, .inr ⟨rfl, rfl⟩⟩) (fun _ h => h.elim) (fun _ _ => trivial) hI.ent hI.ent.size (by have := HLe.out; omega) ?_
      intro v1 w1 ho hb hg hat
      obtain ⟨Ax, cx, hv, hc, hCx⟩ := last_reads hO ho hC7 hne7 hlt7 hg (chain hBW hb)
      exact ⟨v1, rfl, fun _ => trivial, hg.size, ⟨hI.last L2 L8 hv hc hCx hb, hOr.o7 L6⟩⟩
    · intro x wx L hI hA hB hd hs
      obtain ⟨hI, hOr⟩ := hI
      have L2 := hA 2 (by kernel_rfl)
      have L7 := hA 7 (by kernel_rfl)
      have hfin := hI.fin L2 L7
      obtain ⟨u50, hu50⟩ : ∃ u, x.eval (.tmp 50) = u := ⟨_, rfl⟩
      have e50 := ev_of hu50
      rw [hu50] at hfin
      skip
      refine wpOp_plain rfl rfl ?_
      clear hd hs
      go_simp
      exact ⟨⟨_, rfl⟩, hfin, hOr.o0 8 (by omega)⟩
  · intro vs wq hl hR hv
    obtain ⟨v0, v1, v2, v3, v4, v5, v6, v7, v8, rfl⟩ := list_9 hl
    obtain rfl : .slice A9 le.length c9 = v1 := (hv 1 v1 rfl rfl).symm
    obtain rfl : .agg #[.int .u64 a, .int .u64 b, .int .u64 c, .string p, .string m] = v3 := (hv 3 v3 rfl rfl).symm
    obtain rfl : .agg #[.int .i64 0, .int .i64 3, .int .u64 a, .int .u64 b, .int .u64 c, .string p] = v4 := (hv 4 v4 rfl rfl).symm
    clear hv hl
    simp only [List.map_cons, List.map_nil, putAll, Act.put, List.setIfInBounds_toArray, List.set_cons_zero, List.set_cons_succ]
    have HI := hR (fun i => decide (i < 9)) (fun i hi => by simpa using hi) (fun i hi => by simpa using hi)
    have r7 := HI.1.v7 rfl
    have r8 := HI.1.v8 rfl
    have rE := HI.1.ent
    simp only [List.map_cons, List.map_nil, putAll, Act.put, List.setIfInBounds_toArray, List.set_cons_zero, List.set_cons_succ] at r7 r8
    replace r8 : v8 = v7 := r8
    subst r8
    obtain ⟨A10, c10, e10, hc10, hC10⟩ := r7
    replace e10 : v8 = .slice A10 (le ++ [[(⟨0, 3, a, b, c, p⟩ : S54)]]).length c10 := e10
    subst e10
    generalize le ++ [[(⟨0, 3, a, b, c, p⟩ : S54)]] = lo at *
    have hVq := (rE.block _ (blk_lt hV8)).trans hV8
    have hBq := chain hBW rE
    have HCe := Aside0.mk (C_slice_of (Kd.C_below hC8 rE) hBq)
    have HCo := Aside0.mk hC10
    have HGq := Aside0.mk (HGE.out.below hBq)
    clear hR HI hi2 rE hC10 hV8 hC8 hBW
    go_wp2_with fail
    refine region_row (id := 7) mixed (by kernel_rfl) (fun i _ v => match i with
        | 0 => v = .slice A9 le.length c9
        | 1 => v = .agg #[.int .u64 a, .int .u64 b, .int .u64 c, .string p, .string m]
        | 2 => v = .bool pre
        | 3 => v = .bool false
        | 4 => v = .slice A0 l0.length c0
        | 5 => v = .agg #[.int .u64 a, .int .u64 b, .int .u64 c, .string p, .string m]
        | 6 => v = .bool pre
        | 7 => v = .bool false
        | 8 => v = .bool false
        | 9 => v = .slice A1 l1.length c1
        | 10 => v = .agg #[.int .u64 a, .int .u64 b, .int .u64 c, .string p, .string m]
        | 11 => v = .bool pre
        | 12 => v = .bool false
        | 13 => v = .bool false
        | 14 => v = .bool true
        | 15 => v = .bool true
        | 16 => v = .slice A10 lo.length c10
        | 17 => v = .agg #[.int .u64 a, .int .u64 b, .int .u64 c, .string p, .string m]
        | 18 => v = .bool pre
        | 19 => v = .bool true
        | 20 => v = .bool true
        | 21 => v = .bool true
        | _ => True) Gr (Gr.refl _) Gr.trans ?_ ?_ ?_
    · exact fun h _ => h
    · refine ⟨?_, ?_, ?_, ?_, ?_, ?_, ?_, ?_, ?_, ?_, ?_, ?_, ?_, ?_, ?_, ?_, ?_, ?_, ?_, ?_, ?_, ?_, trivial⟩
      · intro x wx hR hd hs
        have e9 := ev_of (hs 9 (by kernel_rfl) : x.eval (.tmp 9) = .slice A9 le.length c9)
        clear hd hs
        refine wpOp_plain rfl rfl ?_
        go_simp
        exact ⟨_, rfl, rfl, Gr.refl _⟩
      · intro x wx hR hd hs
        have e6 := ev_of (hs 6 (by kernel_rfl) : x.eval (.tmp 6) = .pointer (some ⟨w.heap.size, 0, none⟩))
        have hbx := ((drew_chain hR).block _ (blk_lt hVq)).trans hVq
        have z0 : wx.cell? ⟨w.heap.size, 0, none⟩ = some (.int .u64 a) := (blk_cell hbx 0).trans rfl
        have z1 : wx.cell? ⟨w.heap.size, 1, none⟩ = some (.int .u64 b) := (blk_cell hbx 1).trans rfl
        have z2 : wx.cell? ⟨w.heap.size, 2, none⟩ = some (.int .u64 c) := (blk_cell hbx 2).trans rfl
        have z3 : wx.cell? ⟨w.heap.size, 3, none⟩ = some (.string p) := (blk_cell hbx 3).trans rfl
        have z4 : wx.cell? ⟨w.heap.size, 4, none⟩ = some (.string m) := (blk_cell hbx 4).trans rfl
        clear hd hs
        refine wpOp_plain rfl rfl ?_
        go_simp
        exact ⟨_, rfl, rfl, Gr.refl _⟩
      · intro x wx hR hd hs
        have e3 := ev_of (hs 3 (by kernel_rfl) : x.eval (.tmp 3) = .bool pre)
        clear hd hs
        refine wpOp_plain rfl rfl ?_
        go_simp
        exact ⟨_, rfl, rfl, Gr.refl _⟩
      · intro x wx hR hd hs
        have e51 := ev_of (hd 0 _ 51 rfl rfl (by kernel_rfl) : x.eval (.tmp 51) = .slice A9 le.length c9)
        have e52 := ev_of (hd 1 _ 52 rfl rfl (by kernel_rfl) : x.eval (.tmp 52) = .agg #[.int .u64 a, .int .u64 b, .int .u64 c, .string p, .string m])
        have e53 := ev_of (hd 2 _ 53 rfl rfl (by kernel_rfl) : x.eval (.tmp 53) = .bool pre)
        have hcx := Kd.C_below HCe.out (drew_chain hR)
        have HGx := HGq.out.below (drew_chain hR)
        clear hd hs
        refine wpOp_plain rfl rfl ?_
        go_simp
        refine (impl_TermsHold.calls A9 c9 le a b c p m pre _ _ hcx hc9 HGx HTE.out).mono ?_
        rintro e w1 ⟨rfl, hb⟩
        exact ⟨_, rfl, rfl, hb⟩
      · intro x wx hR hd hs
        have e0 := ev_of (hs 0 (by kernel_rfl) : x.eval (.tmp 0) = .slice A0 l0.length c0)
        clear hd hs
        refine wpOp_plain rfl rfl ?_
        go_simp
        exact ⟨_, rfl, rfl, Gr.refl _⟩
      · intro x wx hR hd hs
        have e6 := ev_of (hs 6 (by kernel_rfl) : x.eval (.tmp 6) = .pointer (some ⟨w.heap.size, 0, none⟩))
        have hbx := ((drew_chain hR).block _ (blk_lt hVq)).trans hVq
        have z0 : wx.cell? ⟨w.heap.size, 0, none⟩ = some (.int .u64 a) := (blk_cell hbx 0).trans rfl
        have z1 : wx.cell? ⟨w.heap.size, 1, none⟩ = some (.int .u64 b) := (blk_cell hbx 1).trans rfl
        have z2 : wx.cell? ⟨w.heap.size, 2, none⟩ = some (.int .u64 c) := (blk_cell hbx 2).trans rfl
        have z3 : wx.cell? ⟨w.heap.size, 3, none⟩ = some (.string p) := (blk_cell hbx 3).trans rfl
        have z4 : wx.cell? ⟨w.heap.size, 4, none⟩ = some (.string m) := (blk_cell hbx 4).trans rfl
        clear hd hs
        refine wpOp_plain rfl rfl ?_
        go_simp
        exact ⟨_, rfl, rfl, Gr.refl _⟩
      · intro x wx hR hd hs
        have e3 := ev_of (hs 3 (by kernel_rfl) : x.eval (.tmp 3) = .bool pre)
        clear hd hs
        refine wpOp_plain rfl rfl ?_
        go_simp
        exact ⟨_, rfl, rfl, Gr.refl _⟩
      · intro x wx hR hd hs
        have e55 := ev_of (hd 4 _ 55 rfl rfl (by kernel_rfl) : x.eval (.tmp 55) = .slice A0 l0.length c0)
        have e56 := ev_of (hd 5 _ 56 rfl rfl (by kernel_rfl) : x.eval (.tmp 56) = .agg #[.int .u64 a, .int .u64 b, .int .u64 c, .string p, .string m])
        have e57 := ev_of (hd 6 _ 57 rfl rfl (by kernel_rfl) : x.eval (.tmp 57) = .bool pre)
        have hcx := Kd.C_below HR0.out (chain hBq (drew_chain hR))
        have HGx := HGq.out.below (drew_chain hR)
        clear hd hs
        refine wpOp_plain rfl rfl ?_
        go_simp
        refine (impl_TermsHold.calls A0 c0 l0 a b c p m pre _ _ hcx HC0.out HGx HTC.out).mono ?_
        rintro e w1 ⟨rfl, hb⟩
        exact ⟨_, rfl, rfl, hb⟩
      · intro x wx hR hd hs
        have e58 := ev_of (hd 7 _ 58 rfl rfl (by kernel_rfl) : x.eval (.tmp 58) = .bool false)
        clear hd hs
        refine wpOp_plain rfl rfl ?_
        go_simp
        exact ⟨_, rfl, rfl, Gr.refl _⟩
      · intro x wx hR hd hs
        have e1 := ev_of (hs 1 (by kernel_rfl) : x.eval (.tmp 1) = .slice A1 l1.length c1)
        have ey : x.eval (.tmp 59) = .bool false := hd 8 _ 59 rfl rfl (by kernel_rfl)
        clear hd hs
        refine wpOp_guarded rfl rfl (yielded_of rfl rfl ey) (fun _ => ?_) (fun hc => absurd rfl hc)
        go_simp
        exact ⟨_, rfl, rfl, Gr.refl _⟩
      · intro x wx hR hd hs
        have e6 := ev_of (hs 6 (by kernel_rfl) : x.eval (.tmp 6) = .pointer (some ⟨w.heap.size, 0, none⟩))
        have ey : x.eval (.tmp 59) = .bool false := hd 8 _ 59 rfl rfl (by kernel_rfl)
        have hbx := ((drew_chain hR).block _ (blk_lt hVq)).trans hVq
        have z0 : wx.cell? ⟨w.heap.size, 0, none⟩ = some (.int .u64 a) := (blk_cell hbx 0).trans rfl
        have z1 : wx.cell? ⟨w.heap.size, 1, none⟩ = some (.int .u64 b) := (blk_cell hbx 1).trans rfl
        have z2 : wx.cell? ⟨w.heap.size, 2, none⟩ = some (.int .u64 c) := (blk_cell hbx 2).trans rfl
        have z3 : wx.cell? ⟨w.heap.size, 3, none⟩ = some (.string p) := (blk_cell hbx 3).trans rfl
        have z4 : wx.cell? ⟨w.heap.size, 4, none⟩ = some (.string m) := (blk_cell hbx 4).trans rfl
        clear hd hs
        refine wpOp_guarded rfl rfl (yielded_of rfl rfl ey) (fun _ => ?_) (fun hc => absurd rfl hc)
        go_simp
        exact ⟨_, rfl, rfl, Gr.refl _⟩
      · intro x wx hR hd hs
        have e3 := ev_of (hs 3 (by kernel_rfl) : x.eval (.tmp 3) = .bool pre)
        have ey : x.eval (.tmp 59) = .bool false := hd 8 _ 59 rfl rfl (by kernel_rfl)
        clear hd hs
        refine wpOp_guarded rfl rfl (yielded_of rfl rfl ey) (fun _ => ?_) (fun hc => absurd rfl hc)
        go_simp
        exact ⟨_, rfl, rfl, Gr.refl _⟩
      · intro x wx hR hd hs
        have e60 := ev_of (hd 9 _ 60 rfl rfl (by kernel_rfl) : x.eval (.tmp 60) = .slice A1 l1.length c1)
        have e61 := ev_of (hd 10 _ 61 rfl rfl (by kernel_rfl) : x.eval (.tmp 61) = .agg #[.int .u64 a, .int .u64 b, .int .u64 c, .string p, .string m])
        have e62 := ev_of (hd 11 _ 62 rfl rfl (by kernel_rfl) : x.eval (.tmp 62) = .bool pre)
        have ey : x.eval (.tmp 59) = .bool false := hd 8 _ 59 rfl rfl (by kernel_rfl)
        have hcx := Kd.C_below HR1.out (chain hBq (drew_chain hR))
        have HGx := HGq.out.below (drew_chain hR)
        clear hd hs
        refine wpOp_guarded rfl rfl (yielded_of rfl rfl ey) (fun _ => ?_) (fun hc => absurd rfl hc)
        go_simp
        refine (impl_TermsHold.calls A1 c1 l1 a b c p m pre _ _ hcx HC1.out HGx HTD.out).mono ?_
        rintro e w1 ⟨rfl, hb⟩
        exact ⟨_, rfl, rfl, hb⟩
      · intro x wx hR hd hs
        have e59 := ev_of (hd 8 _ 59 rfl rfl (by kernel_rfl) : x.eval (.tmp 59) = .bool false)
        have e63 := ev_of (hd 12 _ 63 rfl rfl (by kernel_rfl) : x.eval (.tmp 63) = .bool false)
        clear hd hs
        refine wpOp_plain rfl rfl ?_
        go_simp
        exact ⟨_, rfl, rfl, Gr.refl _⟩
      · intro x wx hR hd hs
        have e54 := ev_of (hd 3 _ 54 rfl rfl (by kernel_rfl) : x.eval (.tmp 54) = .bool false)
        have e64 := ev_of (hd 13 _ 64 rfl rfl (by kernel_rfl) : x.eval (.tmp 64) = .bool false)
        clear hd hs
        refine wpOp_plain rfl rfl ?_
        go_simp
        exact ⟨_, rfl, rfl, Gr.refl _⟩
      · intro x wx hR hd hs
        have e65 := ev_of (hd 14 _ 65 rfl rfl (by kernel_rfl) : x.eval (.tmp 65) = .bool true)
        clear hd hs
        refine wpOp_plain rfl rfl ?_
        go_simp
        exact ⟨_, rfl, rfl, Gr.refl _⟩
      · intro x wx hR hd hs
        have e10 := ev_of (hs 10 (by kernel_rfl) : x.eval (.tmp 10) = .slice A10 lo.length c10)
        have ey : x.eval (.tmp 66) = .bool true := hd 15 _ 66 rfl rfl (by kernel_rfl)
        clear hd hs
        refine wpOp_guarded rfl rfl (yielded_of rfl rfl ey) (fun _ => ?_) (fun hc => absurd rfl hc)
        go_simp
        exact ⟨_, rfl, rfl, Gr.refl _⟩
      · intro x wx hR hd hs
        have e6 := ev_of (hs 6 (by kernel_rfl) : x.eval (.tmp 6) = .pointer (some ⟨w.heap.size, 0, none⟩))
        have ey : x.eval (.tmp 66) = .bool true := hd 15 _ 66 rfl rfl (by kernel_rfl)
        have hbx := ((drew_chain hR).block _ (blk_lt hVq)).trans hVq
        have z0 : wx.cell? ⟨w.heap.size, 0, none⟩ = some (.int .u64 a) := (blk_cell hbx 0).trans rfl
        have z1 : wx.cell? ⟨w.heap.size, 1, none⟩ = some (.int .u64 b) := (blk_cell hbx 1).trans rfl
        have z2 : wx.cell? ⟨w.heap.size, 2, none⟩ = some (.int .u64 c) := (blk_cell hbx 2).trans rfl
        have z3 : wx.cell? ⟨w.heap.size, 3, none⟩ = some (.string p) := (blk_cell hbx 3).trans rfl
        have z4 : wx.cell? ⟨w.heap.size, 4, none⟩ = some (.string m) := (blk_cell hbx 4).trans rfl
        clear hd hs
        refine wpOp_guarded rfl rfl (yielded_of rfl rfl ey) (fun _ => ?_) (fun hc => absurd rfl hc)
        go_simp
        exact ⟨_, rfl, rfl, Gr.refl _⟩
      · intro x wx hR hd hs
        have e3 := ev_of (hs 3 (by kernel_rfl) : x.eval (.tmp 3) = .bool pre)
        have ey : x.eval (.tmp 66) = .bool true := hd 15 _ 66 rfl rfl (by kernel_rfl)
        clear hd hs
        refine wpOp_guarded rfl rfl (yielded_of rfl rfl ey) (fun _ => ?_) (fun hc => absurd rfl hc)
        go_simp
        exact ⟨_, rfl, rfl, Gr.refl _⟩
      · intro x wx hR hd hs
        have e67 := ev_of (hd 16 _ 67 rfl rfl (by kernel_rfl) : x.eval (.tmp 67) = .slice A10 lo.length c10)
        have e68 := ev_of (hd 17 _ 68 rfl rfl (by kernel_rfl) : x.eval (.tmp 68) = .agg #[.int .u64 a, .int .u64 b, .int .u64 c, .string p, .string m])
        have e69 := ev_of (hd 18 _ 69 rfl rfl (by kernel_rfl) : x.eval (.tmp 69) = .bool pre)
        have ey : x.eval (.tmp 66) = .bool true := hd 15 _ 66 rfl rfl (by kernel_rfl)
        have hcx := Kd.C_below HCo.out (drew_chain hR)
        have HGx := HGq.out.below (drew_chain hR)
        clear hd hs
        refine wpOp_guarded rfl rfl (yielded_of rfl rfl ey) (fun _ => ?_) (fun hc => absurd rfl hc)
        go_simp
        refine (impl_TermsHold.calls A10 c10 lo a b c p m pre _ _ hcx hc10 HGx HTO.out).mono ?_
        rintro e w1 ⟨rfl, hb⟩
        exact ⟨_, rfl, rfl, hb⟩
      · intro x wx hR hd hs
        have e66 := ev_of (hd 15 _ 66 rfl rfl (by kernel_rfl) : x.eval (.tmp 66) = .bool true)
        have e70 := ev_of (hd 19 _ 70 rfl rfl (by kernel_rfl) : x.eval (.tmp 70) = .bool true)
        clear hd hs
        refine wpOp_plain rfl rfl ?_
        go_simp
        exact ⟨_, rfl, rfl, Gr.refl _⟩
      · intro x wx hR hd hs
        have e71 := ev_of (hd 20 _ 71 rfl rfl (by kernel_rfl) : x.eval (.tmp 71) = .bool true)
        clear hd hs
        refine wpOp_plain rfl rfl ?_
        go_simp
        exact ⟨_, rfl, rfl, Gr.refl _⟩
    · intro vs wz hl hRr hv
      obtain ⟨v0, v1, v2, v3, v4, v5, v6, v7, v8, v9, v10, v11, v12, v13, v14, v15, v16, v17, v18, v19, v20, v21, rfl⟩ := list_22 hl
      obtain rfl : .slice A9 le.length c9 = v0 := (hv 0 v0 rfl).symm
      obtain rfl : .agg #[.int .u64 a, .int .u64 b, .int .u64 c, .string p, .string m] = v1 := (hv 1 v1 rfl).symm
      obtain rfl : .bool pre = v2 := (hv 2 v2 rfl).symm
      obtain rfl : .bool false = v3 := (hv 3 v3 rfl).symm
      obtain rfl : .slice A0 l0.length c0 = v4 := (hv 4 v4 rfl).symm
      obtain rfl : .agg #[.int .u64 a, .int .u64 b, .int .u64 c, .string p, .string m] = v5 := (hv 5 v5 rfl).symm
      obtain rfl : .bool pre = v6 := (hv 6 v6 rfl).symm
      obtain rfl : .bool false = v7 := (hv 7 v7 rfl).symm
      obtain rfl : .bool false = v8 := (hv 8 v8 rfl).symm
      obtain rfl : .slice A1 l1.length c1 = v9 := (hv 9 v9 rfl).symm
      obtain rfl : .agg #[.int .u64 a, .int .u64 b, .int .u64 c, .string p, .string m] = v10 := (hv 10 v10 rfl).symm
      obtain rfl : .bool pre = v11 := (hv 11 v11 rfl).symm
      obtain rfl : .bool false = v12 := (hv 12 v12 rfl).symm
      obtain rfl : .bool false = v13 := (hv 13 v13 rfl).symm
      obtain rfl : .bool true = v14 := (hv 14 v14 rfl).symm
      obtain rfl : .bool true = v15 := (hv 15 v15 rfl).symm
      obtain rfl : .slice A10 lo.length c10 = v16 := (hv 16 v16 rfl).symm
      obtain rfl : .agg #[.int .u64 a, .int .u64 b, .int .u64 c, .string p, .string m] = v17 := (hv 17 v17 rfl).symm
      obtain rfl : .bool pre = v18 := (hv 18 v18 rfl).symm
      obtain rfl : .bool true = v19 := (hv 19 v19 rfl).symm
      obtain rfl : .bool true = v20 := (hv 20 v20 rfl).symm
      obtain rfl : .bool true = v21 := (hv 21 v21 rfl).symm
      clear hv hl
      simp only [List.map_cons, List.map_nil, putAll, Act.put, List.setIfInBounds_toArray, List.set_cons_zero, List.set_cons_succ]
      go_wp2
      go_ret
      exact ⟨rfl, chain hBq (drew_chain hRr)⟩

end Go.Proofs.YtgenbmhmcnaiiaaDoor.H
