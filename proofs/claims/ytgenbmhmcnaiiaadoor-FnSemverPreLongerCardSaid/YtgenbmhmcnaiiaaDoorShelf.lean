/-
  DERIVED: THE SHELF's CONTRACTS AT THIS DUMP, IN PLAIN WORDS (tools/lay-plain.mjs out of 'TrydShelf.lean', which tools/lay-shelf.mjs wrote): THE SAME DECLARATIONS UNDER THE SAME NAMES: 'import', 'namespace', 'open', 'def', 'theorem' AND NOTHING ELSE: no command of the shelf's: FOR A HAND-IN. Each laying: the table of numbers ('.._ren') and one theorem, a field a fact of the dump's own or the kernel's comparison; each contract: ONE APPLICATION.
-/
import Derived.Shelf.Strconv.Itoa0
import Derived.Shelf.Strconv.Itoa1
import Derived.Shelf.LaysM
import Derived.Shelf.Strconv.Itoa2
import Derived.Shelf.Strconv.Itoa3
import Derived.Shelf.Strconv.Lower
import Derived.Shelf.Strconv.ParseUint10
import Derived.Shelf.Strconv.ParseUintEmpty
import Derived.Shelf.Strconv.ParseUint10b64
import Derived.Shelf.Strconv.ParseUint10b32
import Derived.Shelf.Strconv.ParseUint10b16
import Derived.Shelf.Strconv.ParseUint10b8
import Derived.Shelf.Strconv.ParseUint10At
import Derived.Ground.MpProg
import Derived.Shelf.Pu.ParseUintPublic10
import Derived.Shelf.Pu.ErrVarParseUint
import Derived.Shelf.GgClosure.StringsIndexFunc
import Derived.Ground.GgwProg
import Derived.Shelf.GgClosure.StringsIndexFuncTop
import Derived.Shelf.GgClosure.StringsRunes
import Derived.Shelf.Strings.FuncGrows
import Derived.Test.YtgenbmhmcnaiiaaDoorProg
namespace Go.Proofs
open Go.Shelf
def Tryd.lays129_ren : Go.Shelf.Ren := ⟨fun | 129 => 177 | n => n, fun | 53 => 25 | 3 => 3 | 4 => 4 | 46 => 175 | 5 => 5 | 9 => 9 | n => n, fun | n => n⟩
theorem Tryd.lays129 : Go.Proofs.Lays.n129 Tryd.prog Tryd.lays129_ren := {
  mixed := by kernel_rfl
  f129 := Tryd.func177.trans (congrArg some (by kernel_rfl))
  t3 := Tryd.underlying3
  a3 := Tryd.isAgg3
  z3 := Tryd.sizeOf3
  v3 := Tryd.zeroValue3
  t4 := Tryd.underlying4
  a4 := Tryd.isAgg4
  z4 := Tryd.sizeOf4
  v4 := Tryd.zeroValue4
  t5 := Tryd.underlying5
  a5 := Tryd.isAgg5
  z5 := Tryd.sizeOf5
  v5 := Tryd.zeroValue5
  t9 := Tryd.underlying9
  a9 := Tryd.isAgg9
  z9 := Tryd.sizeOf9
  v9 := Tryd.zeroValue9
  t46 := Tryd.underlying175
  a46 := Tryd.isAgg175
  z46 := Tryd.sizeOf175
  v46 := Tryd.zeroValue175
  t53 := Tryd.underlying25
  a53 := Tryd.isAgg25
  z53 := Tryd.sizeOf25
  v53 := Tryd.zeroValue25 }
/-- bits.Len64: "Len64 returns the minimum number of bits required to represent x; the result is 0 for x == 0.": IT RETURNS 'Lib.bitLen x'; the world is as it was. ('h0', 'h1': x is a uint64.) (LAID: no walk: one application.) -/
theorem Tryd.bits_Len64 (x : Int) (w : World) (h0 : 0 ≤ x) (h1 : x ≤ 18446744073709551615) :
    Calls Tryd.prog 177 #[.int .u64 x] w fun e w' => e = .returned (.int .i64 (Lib.bitLen x.toNat)) ∧ w' = w := Any.bits_Len64 Tryd.lays129 x w h0 h1
def Tryd.lays317_ren : Go.Shelf.Ren := ⟨fun | 317 => 176 | n => n, fun | 3 => 3 | 46 => 175 | n => n, fun | n => n⟩
theorem Tryd.lays317 : Go.Proofs.Lays.n317 Tryd.prog Tryd.lays317_ren := {
  mixed := by kernel_rfl
  f317 := Tryd.func176.trans (congrArg some (by kernel_rfl))
  t3 := Tryd.underlying3
  a3 := Tryd.isAgg3
  z3 := Tryd.sizeOf3
  v3 := Tryd.zeroValue3
  t46 := Tryd.underlying175
  a46 := Tryd.isAgg175
  z46 := Tryd.sizeOf175
  v46 := Tryd.zeroValue175 }
open Go.Lib in
/-- internal/strconv.log10Pow2: "log10Pow2(x) returns ⌊log₁₀ 2**x⌋ = ⌊x * log₁₀ 2⌋.": '(x * 78913) >> 18', at an x up to 64 (a length in bits). The world is as it was. (LAID: no walk: one application.) -/
theorem Tryd.internal_strconv_log10Pow2 (x : Nat) (h : x ≤ 64) (w : World) :
    Calls Tryd.prog 176 #[.int .i64 x] w fun e w' => e = .returned (.int .i64 (Lib.l10 x)) ∧ w' = w := Any.internal_strconv_log10Pow2 Tryd.lays317 x h w
def Tryd.lays318_ren : Go.Shelf.Ren := ⟨fun | 318 => 178 | n => n, fun | 3 => 3 | 4 => 4 | n => n, fun | n => n⟩
theorem Tryd.lays318 : Go.Proofs.Lays.n318 Tryd.prog Tryd.lays318_ren := {
  mixed := by kernel_rfl
  f318 := Tryd.func178.trans (congrArg some (by kernel_rfl))
  t3 := Tryd.underlying3
  a3 := Tryd.isAgg3
  z3 := Tryd.sizeOf3
  v3 := Tryd.zeroValue3
  t4 := Tryd.underlying4
  a4 := Tryd.isAgg4
  z4 := Tryd.sizeOf4
  v4 := Tryd.zeroValue4 }
open Go.Lib in
/-- internal/strconv.bool2: "bool2 converts b to an integer: 1 for true, 0 for false." The world is as it was. (LAID: no walk: one application.) -/
theorem Tryd.internal_strconv_bool2_int (b : Bool) (w : World) :
    Calls Tryd.prog 178 #[.bool b] w fun e w' => e = .returned (.int .i64 (if b then 1 else 0)) ∧ w' = w := Any.internal_strconv_bool2_int Tryd.lays318 b w
def Tryd.lays283_ren : Go.Shelf.Ren := ⟨fun | 283 => 163 | n => n, fun | 3 => 3 | 9 => 9 | 4 => 4 | n => n, fun | n => n⟩
theorem Tryd.lays283 : Go.Proofs.Lays.n283 Tryd.prog Tryd.lays283_ren := {
  mixed := by kernel_rfl
  f283 := Tryd.func163.trans (congrArg some (by kernel_rfl))
  t3 := Tryd.underlying3
  a3 := Tryd.isAgg3
  z3 := Tryd.sizeOf3
  v3 := Tryd.zeroValue3
  t4 := Tryd.underlying4
  a4 := Tryd.isAgg4
  z4 := Tryd.sizeOf4
  v4 := Tryd.zeroValue4
  t9 := Tryd.underlying9
  a9 := Tryd.isAgg9
  z9 := Tryd.sizeOf9
  v9 := Tryd.zeroValue9 }
open Go.Lib in
/-- internal/strconv.small: "small returns the string for an i with 0 <= i < nSmalls.": i's decimal numeral. The world is as it was. (LAID: no walk: one application.) -/
theorem Tryd.internal_strconv_small (i : Nat) (h : i < 100) (w : World) :
    Calls Tryd.prog 163 #[.int .i64 i] w fun e w' => e = .returned (.string ⟨(Lib.decDigits i).toArray⟩) ∧ w' = w := Any.internal_strconv_small Tryd.lays283 i h w
def Tryd.laysM284_ren : Go.Shelf.Ren := ⟨fun | 284 => 164 | 129 => 177 | 317 => 176 | 318 => 178 | n => n, fun | 53 => 25 | 3 => 3 | 212 => 184 | 0 => 0 | 4 => 4 | 46 => 175 | 5 => 5 | 9 => 9 | n => n, fun | 17 => 9 | n => n⟩
theorem Tryd.laysM284 : Go.Proofs.LaysM.n284 Tryd.prog Tryd.laysM284_ren := {
  mixed := by kernel_rfl
  f129 := Tryd.func177.trans (congrArg some (by kernel_rfl))
  f284 := Tryd.func164.trans (congrArg some (by kernel_rfl))
  f317 := Tryd.func176.trans (congrArg some (by kernel_rfl))
  f318 := Tryd.func178.trans (congrArg some (by kernel_rfl))
  t0 := Tryd.underlying0
  a0 := Tryd.isAgg0
  z0 := Tryd.sizeOf0
  v0 := Tryd.zeroValue0
  t3 := Tryd.underlying3
  a3 := Tryd.isAgg3
  z3 := Tryd.sizeOf3
  v3 := Tryd.zeroValue3
  t4 := Tryd.underlying4
  a4 := Tryd.isAgg4
  z4 := Tryd.sizeOf4
  v4 := Tryd.zeroValue4
  t5 := Tryd.underlying5
  a5 := Tryd.isAgg5
  z5 := Tryd.sizeOf5
  v5 := Tryd.zeroValue5
  t9 := Tryd.underlying9
  a9 := Tryd.isAgg9
  z9 := Tryd.sizeOf9
  v9 := Tryd.zeroValue9
  t46 := Tryd.underlying175
  a46 := Tryd.isAgg175
  z46 := Tryd.sizeOf175
  v46 := Tryd.zeroValue175
  t53 := Tryd.underlying25
  a53 := Tryd.isAgg25
  z53 := Tryd.sizeOf25
  v53 := Tryd.zeroValue25
  t212 := Tryd.underlying184
  a212 := Tryd.isAgg184
  z212 := Tryd.sizeOf184
  v212 := Tryd.zeroValue184
  g17 := by kernel_rfl
  i0 := by kernel_rfl
  i3 := by kernel_rfl
  i4 := by kernel_rfl
  i5 := by kernel_rfl
  i9 := by kernel_rfl
  i46 := by kernel_rfl
  i53 := by kernel_rfl
  i212 := by kernel_rfl
  m17 := by kernel_rfl }
open Go.Lib in
/-- internal/strconv.numDigits, at a d that is not 0: THE NUMBER OF d's DECIMAL DIGITS. The world is as it was. (LAID: no walk: one application.) -/
theorem Tryd.internal_strconv_numDigits (u : Nat) (h1 : 1 ≤ u) (h2 : u < 18446744073709551616) (w : World) (htab : Lib.TabIs Tryd.prog w "internal/strconv.uint64pow10" .u64 Lib.pow10Tab) :
    Calls Tryd.prog 164 #[.int .u64 u] w fun e w' => e = .returned (.int .i64 (Lib.nDigits u)) ∧ w' = w := Any.internal_strconv_numDigits Tryd.laysM284 u h1 h2 w htab
def Tryd.lays285_ren : Go.Shelf.Ren := ⟨fun | 285 => 165 | n => n, fun | 37 => 29 | 53 => 25 | 3 => 3 | 4 => 4 | 51 => 185 | 9 => 9 | 5 => 5 | 0 => 0 | n => n, fun | n => n⟩
theorem Tryd.lays285 : Go.Proofs.Lays.n285 Tryd.prog Tryd.lays285_ren := {
  mixed := by kernel_rfl
  f285 := Tryd.func165.trans (congrArg some (by kernel_rfl))
  t0 := Tryd.underlying0
  a0 := Tryd.isAgg0
  z0 := Tryd.sizeOf0
  v0 := Tryd.zeroValue0
  t3 := Tryd.underlying3
  a3 := Tryd.isAgg3
  z3 := Tryd.sizeOf3
  v3 := Tryd.zeroValue3
  t4 := Tryd.underlying4
  a4 := Tryd.isAgg4
  z4 := Tryd.sizeOf4
  v4 := Tryd.zeroValue4
  t5 := Tryd.underlying5
  a5 := Tryd.isAgg5
  z5 := Tryd.sizeOf5
  v5 := Tryd.zeroValue5
  t9 := Tryd.underlying9
  a9 := Tryd.isAgg9
  z9 := Tryd.sizeOf9
  v9 := Tryd.zeroValue9
  t37 := Tryd.underlying29
  a37 := Tryd.isAgg29
  z37 := Tryd.sizeOf29
  v37 := Tryd.zeroValue29
  t51 := Tryd.underlying185
  a51 := Tryd.isAgg185
  z51 := Tryd.sizeOf185
  v51 := Tryd.zeroValue185
  t53 := Tryd.underlying25
  a53 := Tryd.isAgg25
  z53 := Tryd.sizeOf25
  v53 := Tryd.zeroValue25 }
open Go.RowKit Go.Sort Go.Lib in
/-- internal/strconv.formatBase10: "formatBase10 formats the decimal representation of u into a. The caller is responsible for ensuring that a is big enough to hold u. If a is too big, leading zeros will be filled in as needed.": THE ROW HOLDS u's DIGITS ('FmtInv .. 0 ..': every place t holds 'dg u (len - 1 - t)'); all else is as it was but for the count of draws. (LAID: no walk: one application.) -/
theorem Tryd.internal_strconv_formatBase10 (blk off cap : Nat) (u : Nat) (d : Array UInt8) (w : World) (hH : Holds (fun (b : UInt8) => Value.int .u8 (b.toNat : Int)) w blk off d) (hu : u < 10 ^ d.size) (hu64 : u < 18446744073709551616) (hsz : d.size < 4611686018427387904) :
    Calls Tryd.prog 165 #[.slice (some ⟨blk, off, none⟩) d.size cap, .int .u64 u] w fun e w' =>
      e = .returned (.tuple #[]) ∧ ∃ (n v' : Nat) (dk : Array UInt8), w' = (putRow (fun (b : UInt8) => Value.int .u8 (b.toNat : Int)) w blk off dk).drewN n ∧ FmtInv d.size u 0 v' dk := Any.internal_strconv_formatBase10 Tryd.lays285 blk off cap u d w hH hu hu64 hsz
def Tryd.laysM246_ren : Go.Shelf.Ren := ⟨fun | 246 => 186 | 283 => 163 | 284 => 164 | 285 => 165 | 286 => 166 | 129 => 177 | 317 => 176 | 318 => 178 | 319 => 179 | 320 => 180 | 337 => 183 | 338 => 184 | n => n, fun | 2 => 2 | 3 => 3 | 9 => 9 | 4 => 4 | 171 => 166 | 0 => 0 | 53 => 25 | 37 => 29 | 5 => 5 | 173 => 169 | 212 => 184 | 51 => 185 | 20 => 20 | 213 => 186 | 46 => 175 | 232 => 194 | 233 => 195 | n => n, fun | 17 => 9 | 18 => 12 | 19 => 13 | n => n⟩
theorem Tryd.laysM246 : Go.Proofs.LaysM.n246 Tryd.prog Tryd.laysM246_ren := {
  mixed := by kernel_rfl
  f129 := Tryd.func177.trans (congrArg some (by kernel_rfl))
  f246 := Tryd.func186.trans (congrArg some (by kernel_rfl))
  f283 := Tryd.func163.trans (congrArg some (by kernel_rfl))
  f284 := Tryd.func164.trans (congrArg some (by kernel_rfl))
  f285 := Tryd.func165.trans (congrArg some (by kernel_rfl))
  f286 := Tryd.func166.trans (congrArg some (by kernel_rfl))
  f317 := Tryd.func176.trans (congrArg some (by kernel_rfl))
  f318 := Tryd.func178.trans (congrArg some (by kernel_rfl))
  f319 := Tryd.func179.trans (congrArg some (by kernel_rfl))
  f320 := Tryd.func180.trans (congrArg some (by kernel_rfl))
  f337 := Tryd.func183.trans (congrArg some (by kernel_rfl))
  f338 := Tryd.func184.trans (congrArg some (by kernel_rfl))
  t0 := Tryd.underlying0
  a0 := Tryd.isAgg0
  z0 := Tryd.sizeOf0
  v0 := Tryd.zeroValue0
  t2 := Tryd.underlying2
  a2 := Tryd.isAgg2
  z2 := Tryd.sizeOf2
  v2 := Tryd.zeroValue2
  t3 := Tryd.underlying3
  a3 := Tryd.isAgg3
  z3 := Tryd.sizeOf3
  v3 := Tryd.zeroValue3
  t4 := Tryd.underlying4
  a4 := Tryd.isAgg4
  z4 := Tryd.sizeOf4
  v4 := Tryd.zeroValue4
  t5 := Tryd.underlying5
  a5 := Tryd.isAgg5
  z5 := Tryd.sizeOf5
  v5 := Tryd.zeroValue5
  t9 := Tryd.underlying9
  a9 := Tryd.isAgg9
  z9 := Tryd.sizeOf9
  v9 := Tryd.zeroValue9
  t20 := Tryd.underlying20
  a20 := Tryd.isAgg20
  z20 := Tryd.sizeOf20
  v20 := Tryd.zeroValue20
  t37 := Tryd.underlying29
  a37 := Tryd.isAgg29
  z37 := Tryd.sizeOf29
  v37 := Tryd.zeroValue29
  t46 := Tryd.underlying175
  a46 := Tryd.isAgg175
  z46 := Tryd.sizeOf175
  v46 := Tryd.zeroValue175
  t51 := Tryd.underlying185
  a51 := Tryd.isAgg185
  z51 := Tryd.sizeOf185
  v51 := Tryd.zeroValue185
  t53 := Tryd.underlying25
  a53 := Tryd.isAgg25
  z53 := Tryd.sizeOf25
  v53 := Tryd.zeroValue25
  t171 := Tryd.underlying166
  a171 := Tryd.isAgg166
  z171 := Tryd.sizeOf166
  v171 := Tryd.zeroValue166
  t173 := Tryd.underlying169
  a173 := Tryd.isAgg169
  z173 := Tryd.sizeOf169
  v173 := Tryd.zeroValue169
  t212 := Tryd.underlying184
  a212 := Tryd.isAgg184
  z212 := Tryd.sizeOf184
  v212 := Tryd.zeroValue184
  t213 := Tryd.underlying186
  a213 := Tryd.isAgg186
  z213 := Tryd.sizeOf186
  t232 := Tryd.underlying194
  a232 := Tryd.isAgg194
  z232 := Tryd.sizeOf194
  v232 := Tryd.zeroValue194
  t233 := Tryd.underlying195
  a233 := Tryd.isAgg195
  z233 := Tryd.sizeOf195
  v233 := Tryd.zeroValue195
  g17 := by kernel_rfl
  g18 := by kernel_rfl
  g19 := by kernel_rfl
  i0 := by kernel_rfl
  i2 := by kernel_rfl
  i3 := by kernel_rfl
  i4 := by kernel_rfl
  i5 := by kernel_rfl
  i9 := by kernel_rfl
  i20 := by kernel_rfl
  i37 := by kernel_rfl
  i46 := by kernel_rfl
  i51 := by kernel_rfl
  i53 := by kernel_rfl
  i171 := by kernel_rfl
  i173 := by kernel_rfl
  i212 := by kernel_rfl
  i232 := by kernel_rfl
  i233 := by kernel_rfl
  m17 := by kernel_rfl
  m18 := by kernel_rfl
  m19 := by kernel_rfl }
open Go.RowKit Go.Sort Go.Lib in
/-- internal/strconv.FormatInt: "FormatInt returns the string representation of i in the given base": AT BASE 10: i's decimal numeral, for every int64. The world behind the call: the world before it, new blocks behind the heap, draws. (LAID: no walk: one application.) -/
theorem Tryd.internal_strconv_FormatInt_10 (n : Int) (h0 : -9223372036854775808 ≤ n) (h1 : n ≤ 9223372036854775807) (w : World) (htab : Lib.TabIs Tryd.prog w "internal/strconv.uint64pow10" .u64 Lib.pow10Tab) :
    Calls Tryd.prog 186 #[.int .i64 n, .int .i64 10] w fun e w' => e = .returned (.string ⟨(Lib.itoa n).toArray⟩) ∧ ∃ k os, w' = grow (w.drewN k) os := Any.internal_strconv_FormatInt_10 Tryd.laysM246 n h0 h1 w htab
def Tryd.lays246_ren : Go.Shelf.Ren := ⟨fun | 246 => 186 | 283 => 163 | 284 => 164 | 285 => 165 | 286 => 166 | 129 => 177 | 317 => 176 | 318 => 178 | 319 => 179 | 320 => 180 | 337 => 183 | 338 => 184 | n => n, fun | 2 => 2 | 3 => 3 | 9 => 9 | 4 => 4 | 171 => 166 | 0 => 0 | 53 => 25 | 37 => 29 | 5 => 5 | 173 => 169 | 212 => 184 | 51 => 185 | 20 => 20 | 213 => 186 | 46 => 175 | 232 => 194 | 233 => 195 | n => n, fun | 17 => 9 | 18 => 12 | 19 => 13 | n => n⟩
theorem Tryd.lays246 : Go.Proofs.Lays.n246 Tryd.prog Tryd.lays246_ren := {
  mixed := by kernel_rfl
  f129 := Tryd.func177.trans (congrArg some (by kernel_rfl))
  f246 := Tryd.func186.trans (congrArg some (by kernel_rfl))
  f283 := Tryd.func163.trans (congrArg some (by kernel_rfl))
  f284 := Tryd.func164.trans (congrArg some (by kernel_rfl))
  f285 := Tryd.func165.trans (congrArg some (by kernel_rfl))
  f286 := Tryd.func166.trans (congrArg some (by kernel_rfl))
  f317 := Tryd.func176.trans (congrArg some (by kernel_rfl))
  f318 := Tryd.func178.trans (congrArg some (by kernel_rfl))
  f319 := Tryd.func179.trans (congrArg some (by kernel_rfl))
  f320 := Tryd.func180.trans (congrArg some (by kernel_rfl))
  f337 := Tryd.func183.trans (congrArg some (by kernel_rfl))
  f338 := Tryd.func184.trans (congrArg some (by kernel_rfl))
  t0 := Tryd.underlying0
  a0 := Tryd.isAgg0
  z0 := Tryd.sizeOf0
  v0 := Tryd.zeroValue0
  t2 := Tryd.underlying2
  a2 := Tryd.isAgg2
  z2 := Tryd.sizeOf2
  v2 := Tryd.zeroValue2
  t3 := Tryd.underlying3
  a3 := Tryd.isAgg3
  z3 := Tryd.sizeOf3
  v3 := Tryd.zeroValue3
  t4 := Tryd.underlying4
  a4 := Tryd.isAgg4
  z4 := Tryd.sizeOf4
  v4 := Tryd.zeroValue4
  t5 := Tryd.underlying5
  a5 := Tryd.isAgg5
  z5 := Tryd.sizeOf5
  v5 := Tryd.zeroValue5
  t9 := Tryd.underlying9
  a9 := Tryd.isAgg9
  z9 := Tryd.sizeOf9
  v9 := Tryd.zeroValue9
  t20 := Tryd.underlying20
  a20 := Tryd.isAgg20
  z20 := Tryd.sizeOf20
  v20 := Tryd.zeroValue20
  t37 := Tryd.underlying29
  a37 := Tryd.isAgg29
  z37 := Tryd.sizeOf29
  v37 := Tryd.zeroValue29
  t46 := Tryd.underlying175
  a46 := Tryd.isAgg175
  z46 := Tryd.sizeOf175
  v46 := Tryd.zeroValue175
  t51 := Tryd.underlying185
  a51 := Tryd.isAgg185
  z51 := Tryd.sizeOf185
  v51 := Tryd.zeroValue185
  t53 := Tryd.underlying25
  a53 := Tryd.isAgg25
  z53 := Tryd.sizeOf25
  v53 := Tryd.zeroValue25
  t171 := Tryd.underlying166
  a171 := Tryd.isAgg166
  z171 := Tryd.sizeOf166
  v171 := Tryd.zeroValue166
  t173 := Tryd.underlying169
  a173 := Tryd.isAgg169
  z173 := Tryd.sizeOf169
  v173 := Tryd.zeroValue169
  t212 := Tryd.underlying184
  a212 := Tryd.isAgg184
  z212 := Tryd.sizeOf184
  v212 := Tryd.zeroValue184
  t213 := Tryd.underlying186
  a213 := Tryd.isAgg186
  z213 := Tryd.sizeOf186
  t232 := Tryd.underlying194
  a232 := Tryd.isAgg194
  z232 := Tryd.sizeOf194
  v232 := Tryd.zeroValue194
  t233 := Tryd.underlying195
  a233 := Tryd.isAgg195
  z233 := Tryd.sizeOf195
  v233 := Tryd.zeroValue195
  g17 := by kernel_rfl
  g18 := by kernel_rfl
  g19 := by kernel_rfl }
open Go.RowKit Go.Sort Go.Lib in
/-- THE ROAD WITHOUT THE TABLE: 0 <= i < 100: two constants are read, nothing is laid: no premise on the world, and the world is as it was. (LAID: no walk: one application.) -/
theorem Tryd.internal_strconv_FormatInt_10_small (i : Nat) (hi : i < 100) (w : World) :
    Calls Tryd.prog 186 #[.int .i64 i, .int .i64 10] w fun e w' => e = .returned (.string ⟨(Lib.decDigits i).toArray⟩) ∧ w' = w := Any.internal_strconv_FormatInt_10_small Tryd.lays246 i hi w
def Tryd.laysM243_ren : Go.Shelf.Ren := ⟨fun | 243 => 185 | 246 => 186 | 283 => 163 | 284 => 164 | 285 => 165 | 286 => 166 | 129 => 177 | 317 => 176 | 318 => 178 | 319 => 179 | 320 => 180 | 337 => 183 | 338 => 184 | n => n, fun | 3 => 3 | 9 => 9 | 2 => 2 | 4 => 4 | 171 => 166 | 0 => 0 | 53 => 25 | 37 => 29 | 5 => 5 | 173 => 169 | 212 => 184 | 51 => 185 | 20 => 20 | 213 => 186 | 46 => 175 | 232 => 194 | 233 => 195 | n => n, fun | 17 => 9 | 18 => 12 | 19 => 13 | n => n⟩
theorem Tryd.laysM243 : Go.Proofs.LaysM.n243 Tryd.prog Tryd.laysM243_ren := {
  mixed := by kernel_rfl
  f129 := Tryd.func177.trans (congrArg some (by kernel_rfl))
  f243 := Tryd.func185.trans (congrArg some (by kernel_rfl))
  f246 := Tryd.func186.trans (congrArg some (by kernel_rfl))
  f283 := Tryd.func163.trans (congrArg some (by kernel_rfl))
  f284 := Tryd.func164.trans (congrArg some (by kernel_rfl))
  f285 := Tryd.func165.trans (congrArg some (by kernel_rfl))
  f286 := Tryd.func166.trans (congrArg some (by kernel_rfl))
  f317 := Tryd.func176.trans (congrArg some (by kernel_rfl))
  f318 := Tryd.func178.trans (congrArg some (by kernel_rfl))
  f319 := Tryd.func179.trans (congrArg some (by kernel_rfl))
  f320 := Tryd.func180.trans (congrArg some (by kernel_rfl))
  f337 := Tryd.func183.trans (congrArg some (by kernel_rfl))
  f338 := Tryd.func184.trans (congrArg some (by kernel_rfl))
  t0 := Tryd.underlying0
  a0 := Tryd.isAgg0
  z0 := Tryd.sizeOf0
  v0 := Tryd.zeroValue0
  t2 := Tryd.underlying2
  a2 := Tryd.isAgg2
  z2 := Tryd.sizeOf2
  v2 := Tryd.zeroValue2
  t3 := Tryd.underlying3
  a3 := Tryd.isAgg3
  z3 := Tryd.sizeOf3
  v3 := Tryd.zeroValue3
  t4 := Tryd.underlying4
  a4 := Tryd.isAgg4
  z4 := Tryd.sizeOf4
  v4 := Tryd.zeroValue4
  t5 := Tryd.underlying5
  a5 := Tryd.isAgg5
  z5 := Tryd.sizeOf5
  v5 := Tryd.zeroValue5
  t9 := Tryd.underlying9
  a9 := Tryd.isAgg9
  z9 := Tryd.sizeOf9
  v9 := Tryd.zeroValue9
  t20 := Tryd.underlying20
  a20 := Tryd.isAgg20
  z20 := Tryd.sizeOf20
  v20 := Tryd.zeroValue20
  t37 := Tryd.underlying29
  a37 := Tryd.isAgg29
  z37 := Tryd.sizeOf29
  v37 := Tryd.zeroValue29
  t46 := Tryd.underlying175
  a46 := Tryd.isAgg175
  z46 := Tryd.sizeOf175
  v46 := Tryd.zeroValue175
  t51 := Tryd.underlying185
  a51 := Tryd.isAgg185
  z51 := Tryd.sizeOf185
  v51 := Tryd.zeroValue185
  t53 := Tryd.underlying25
  a53 := Tryd.isAgg25
  z53 := Tryd.sizeOf25
  v53 := Tryd.zeroValue25
  t171 := Tryd.underlying166
  a171 := Tryd.isAgg166
  z171 := Tryd.sizeOf166
  v171 := Tryd.zeroValue166
  t173 := Tryd.underlying169
  a173 := Tryd.isAgg169
  z173 := Tryd.sizeOf169
  v173 := Tryd.zeroValue169
  t212 := Tryd.underlying184
  a212 := Tryd.isAgg184
  z212 := Tryd.sizeOf184
  v212 := Tryd.zeroValue184
  t213 := Tryd.underlying186
  a213 := Tryd.isAgg186
  z213 := Tryd.sizeOf186
  t232 := Tryd.underlying194
  a232 := Tryd.isAgg194
  z232 := Tryd.sizeOf194
  v232 := Tryd.zeroValue194
  t233 := Tryd.underlying195
  a233 := Tryd.isAgg195
  z233 := Tryd.sizeOf195
  v233 := Tryd.zeroValue195
  g17 := by kernel_rfl
  g18 := by kernel_rfl
  g19 := by kernel_rfl
  i0 := by kernel_rfl
  i2 := by kernel_rfl
  i3 := by kernel_rfl
  i4 := by kernel_rfl
  i5 := by kernel_rfl
  i9 := by kernel_rfl
  i20 := by kernel_rfl
  i37 := by kernel_rfl
  i46 := by kernel_rfl
  i51 := by kernel_rfl
  i53 := by kernel_rfl
  i171 := by kernel_rfl
  i173 := by kernel_rfl
  i212 := by kernel_rfl
  i232 := by kernel_rfl
  i233 := by kernel_rfl
  m17 := by kernel_rfl
  m18 := by kernel_rfl
  m19 := by kernel_rfl }
open Go.RowKit Go.Sort Go.Lib in
/-- internal/strconv.Itoa: "Itoa is equivalent to FormatInt(int64(i), 10).": i's decimal numeral, for every int. (LAID: no walk: one application.) -/
theorem Tryd.internal_strconv_Itoa (n : Int) (h0 : -9223372036854775808 ≤ n) (h1 : n ≤ 9223372036854775807) (w : World) (htab : Lib.TabIs Tryd.prog w "internal/strconv.uint64pow10" .u64 Lib.pow10Tab) :
    Calls Tryd.prog 185 #[.int .i64 n] w fun e w' => e = .returned (.string ⟨(Lib.itoa n).toArray⟩) ∧ ∃ k os, w' = grow (w.drewN k) os := Any.internal_strconv_Itoa Tryd.laysM243 n h0 h1 w htab
def Tryd.lays243_ren : Go.Shelf.Ren := ⟨fun | 243 => 185 | 246 => 186 | 283 => 163 | 284 => 164 | 285 => 165 | 286 => 166 | 129 => 177 | 317 => 176 | 318 => 178 | 319 => 179 | 320 => 180 | 337 => 183 | 338 => 184 | n => n, fun | 3 => 3 | 9 => 9 | 2 => 2 | 4 => 4 | 171 => 166 | 0 => 0 | 53 => 25 | 37 => 29 | 5 => 5 | 173 => 169 | 212 => 184 | 51 => 185 | 20 => 20 | 213 => 186 | 46 => 175 | 232 => 194 | 233 => 195 | n => n, fun | 17 => 9 | 18 => 12 | 19 => 13 | n => n⟩
theorem Tryd.lays243 : Go.Proofs.Lays.n243 Tryd.prog Tryd.lays243_ren := {
  mixed := by kernel_rfl
  f129 := Tryd.func177.trans (congrArg some (by kernel_rfl))
  f243 := Tryd.func185.trans (congrArg some (by kernel_rfl))
  f246 := Tryd.func186.trans (congrArg some (by kernel_rfl))
  f283 := Tryd.func163.trans (congrArg some (by kernel_rfl))
  f284 := Tryd.func164.trans (congrArg some (by kernel_rfl))
  f285 := Tryd.func165.trans (congrArg some (by kernel_rfl))
  f286 := Tryd.func166.trans (congrArg some (by kernel_rfl))
  f317 := Tryd.func176.trans (congrArg some (by kernel_rfl))
  f318 := Tryd.func178.trans (congrArg some (by kernel_rfl))
  f319 := Tryd.func179.trans (congrArg some (by kernel_rfl))
  f320 := Tryd.func180.trans (congrArg some (by kernel_rfl))
  f337 := Tryd.func183.trans (congrArg some (by kernel_rfl))
  f338 := Tryd.func184.trans (congrArg some (by kernel_rfl))
  t0 := Tryd.underlying0
  a0 := Tryd.isAgg0
  z0 := Tryd.sizeOf0
  v0 := Tryd.zeroValue0
  t2 := Tryd.underlying2
  a2 := Tryd.isAgg2
  z2 := Tryd.sizeOf2
  v2 := Tryd.zeroValue2
  t3 := Tryd.underlying3
  a3 := Tryd.isAgg3
  z3 := Tryd.sizeOf3
  v3 := Tryd.zeroValue3
  t4 := Tryd.underlying4
  a4 := Tryd.isAgg4
  z4 := Tryd.sizeOf4
  v4 := Tryd.zeroValue4
  t5 := Tryd.underlying5
  a5 := Tryd.isAgg5
  z5 := Tryd.sizeOf5
  v5 := Tryd.zeroValue5
  t9 := Tryd.underlying9
  a9 := Tryd.isAgg9
  z9 := Tryd.sizeOf9
  v9 := Tryd.zeroValue9
  t20 := Tryd.underlying20
  a20 := Tryd.isAgg20
  z20 := Tryd.sizeOf20
  v20 := Tryd.zeroValue20
  t37 := Tryd.underlying29
  a37 := Tryd.isAgg29
  z37 := Tryd.sizeOf29
  v37 := Tryd.zeroValue29
  t46 := Tryd.underlying175
  a46 := Tryd.isAgg175
  z46 := Tryd.sizeOf175
  v46 := Tryd.zeroValue175
  t51 := Tryd.underlying185
  a51 := Tryd.isAgg185
  z51 := Tryd.sizeOf185
  v51 := Tryd.zeroValue185
  t53 := Tryd.underlying25
  a53 := Tryd.isAgg25
  z53 := Tryd.sizeOf25
  v53 := Tryd.zeroValue25
  t171 := Tryd.underlying166
  a171 := Tryd.isAgg166
  z171 := Tryd.sizeOf166
  v171 := Tryd.zeroValue166
  t173 := Tryd.underlying169
  a173 := Tryd.isAgg169
  z173 := Tryd.sizeOf169
  v173 := Tryd.zeroValue169
  t212 := Tryd.underlying184
  a212 := Tryd.isAgg184
  z212 := Tryd.sizeOf184
  v212 := Tryd.zeroValue184
  t213 := Tryd.underlying186
  a213 := Tryd.isAgg186
  z213 := Tryd.sizeOf186
  t232 := Tryd.underlying194
  a232 := Tryd.isAgg194
  z232 := Tryd.sizeOf194
  v232 := Tryd.zeroValue194
  t233 := Tryd.underlying195
  a233 := Tryd.isAgg195
  z233 := Tryd.sizeOf195
  v233 := Tryd.zeroValue195
  g17 := by kernel_rfl
  g18 := by kernel_rfl
  g19 := by kernel_rfl }
open Go.RowKit Go.Sort Go.Lib in
/-- THE ROAD WITHOUT THE TABLE: 0 <= i < 100. (LAID: no walk: one application.) -/
theorem Tryd.internal_strconv_Itoa_small (i : Nat) (hi : i < 100) (w : World) :
    Calls Tryd.prog 185 #[.int .i64 i] w fun e w' => e = .returned (.string ⟨(Lib.decDigits i).toArray⟩) ∧ w' = w := Any.internal_strconv_Itoa_small Tryd.lays243 i hi w
def Tryd.laysM171_ren : Go.Shelf.Ren := ⟨fun | 171 => 182 | 243 => 185 | 246 => 186 | 283 => 163 | 284 => 164 | 285 => 165 | 286 => 166 | 129 => 177 | 317 => 176 | 318 => 178 | 319 => 179 | 320 => 180 | 337 => 183 | 338 => 184 | n => n, fun | 3 => 3 | 9 => 9 | 2 => 2 | 4 => 4 | 171 => 166 | 0 => 0 | 53 => 25 | 37 => 29 | 5 => 5 | 173 => 169 | 212 => 184 | 51 => 185 | 20 => 20 | 213 => 186 | 46 => 175 | 232 => 194 | 233 => 195 | n => n, fun | 17 => 9 | 18 => 12 | 19 => 13 | n => n⟩
theorem Tryd.laysM171 : Go.Proofs.LaysM.n171 Tryd.prog Tryd.laysM171_ren := {
  mixed := by kernel_rfl
  f129 := Tryd.func177.trans (congrArg some (by kernel_rfl))
  f171 := Tryd.func182.trans (congrArg some (by kernel_rfl))
  f243 := Tryd.func185.trans (congrArg some (by kernel_rfl))
  f246 := Tryd.func186.trans (congrArg some (by kernel_rfl))
  f283 := Tryd.func163.trans (congrArg some (by kernel_rfl))
  f284 := Tryd.func164.trans (congrArg some (by kernel_rfl))
  f285 := Tryd.func165.trans (congrArg some (by kernel_rfl))
  f286 := Tryd.func166.trans (congrArg some (by kernel_rfl))
  f317 := Tryd.func176.trans (congrArg some (by kernel_rfl))
  f318 := Tryd.func178.trans (congrArg some (by kernel_rfl))
  f319 := Tryd.func179.trans (congrArg some (by kernel_rfl))
  f320 := Tryd.func180.trans (congrArg some (by kernel_rfl))
  f337 := Tryd.func183.trans (congrArg some (by kernel_rfl))
  f338 := Tryd.func184.trans (congrArg some (by kernel_rfl))
  t0 := Tryd.underlying0
  a0 := Tryd.isAgg0
  z0 := Tryd.sizeOf0
  v0 := Tryd.zeroValue0
  t2 := Tryd.underlying2
  a2 := Tryd.isAgg2
  z2 := Tryd.sizeOf2
  v2 := Tryd.zeroValue2
  t3 := Tryd.underlying3
  a3 := Tryd.isAgg3
  z3 := Tryd.sizeOf3
  v3 := Tryd.zeroValue3
  t4 := Tryd.underlying4
  a4 := Tryd.isAgg4
  z4 := Tryd.sizeOf4
  v4 := Tryd.zeroValue4
  t5 := Tryd.underlying5
  a5 := Tryd.isAgg5
  z5 := Tryd.sizeOf5
  v5 := Tryd.zeroValue5
  t9 := Tryd.underlying9
  a9 := Tryd.isAgg9
  z9 := Tryd.sizeOf9
  v9 := Tryd.zeroValue9
  t20 := Tryd.underlying20
  a20 := Tryd.isAgg20
  z20 := Tryd.sizeOf20
  v20 := Tryd.zeroValue20
  t37 := Tryd.underlying29
  a37 := Tryd.isAgg29
  z37 := Tryd.sizeOf29
  v37 := Tryd.zeroValue29
  t46 := Tryd.underlying175
  a46 := Tryd.isAgg175
  z46 := Tryd.sizeOf175
  v46 := Tryd.zeroValue175
  t51 := Tryd.underlying185
  a51 := Tryd.isAgg185
  z51 := Tryd.sizeOf185
  v51 := Tryd.zeroValue185
  t53 := Tryd.underlying25
  a53 := Tryd.isAgg25
  z53 := Tryd.sizeOf25
  v53 := Tryd.zeroValue25
  t171 := Tryd.underlying166
  a171 := Tryd.isAgg166
  z171 := Tryd.sizeOf166
  v171 := Tryd.zeroValue166
  t173 := Tryd.underlying169
  a173 := Tryd.isAgg169
  z173 := Tryd.sizeOf169
  v173 := Tryd.zeroValue169
  t212 := Tryd.underlying184
  a212 := Tryd.isAgg184
  z212 := Tryd.sizeOf184
  v212 := Tryd.zeroValue184
  t213 := Tryd.underlying186
  a213 := Tryd.isAgg186
  z213 := Tryd.sizeOf186
  t232 := Tryd.underlying194
  a232 := Tryd.isAgg194
  z232 := Tryd.sizeOf194
  v232 := Tryd.zeroValue194
  t233 := Tryd.underlying195
  a233 := Tryd.isAgg195
  z233 := Tryd.sizeOf195
  v233 := Tryd.zeroValue195
  g17 := by kernel_rfl
  g18 := by kernel_rfl
  g19 := by kernel_rfl
  i0 := by kernel_rfl
  i2 := by kernel_rfl
  i3 := by kernel_rfl
  i4 := by kernel_rfl
  i5 := by kernel_rfl
  i9 := by kernel_rfl
  i20 := by kernel_rfl
  i37 := by kernel_rfl
  i46 := by kernel_rfl
  i51 := by kernel_rfl
  i53 := by kernel_rfl
  i171 := by kernel_rfl
  i173 := by kernel_rfl
  i212 := by kernel_rfl
  i232 := by kernel_rfl
  i233 := by kernel_rfl
  m17 := by kernel_rfl
  m18 := by kernel_rfl
  m19 := by kernel_rfl }
open Go.RowKit Go.Sort Go.Lib in
/-- strconv.Itoa: "Itoa is equivalent to FormatInt(int64(i), 10).": i's DECIMAL NUMERAL ('Lib.itoa': a '-' where i is negative, then the digits), FOR EVERY int. The world behind the call: the world before it, new blocks behind the heap (the library's 'var a [24]byte'), draws. (LAID: no walk: one application.) -/
theorem Tryd.strconv_Itoa (n : Int) (h0 : -9223372036854775808 ≤ n) (h1 : n ≤ 9223372036854775807) (w : World) (htab : Lib.TabIs Tryd.prog w "internal/strconv.uint64pow10" .u64 Lib.pow10Tab) :
    Calls Tryd.prog 182 #[.int .i64 n] w fun e w' => e = .returned (.string ⟨(Lib.itoa n).toArray⟩) ∧ ∃ k os, w' = grow (w.drewN k) os := Any.strconv_Itoa Tryd.laysM171 n h0 h1 w htab
def Tryd.lays171_ren : Go.Shelf.Ren := ⟨fun | 171 => 182 | 243 => 185 | 246 => 186 | 283 => 163 | 284 => 164 | 285 => 165 | 286 => 166 | 129 => 177 | 317 => 176 | 318 => 178 | 319 => 179 | 320 => 180 | 337 => 183 | 338 => 184 | n => n, fun | 3 => 3 | 9 => 9 | 2 => 2 | 4 => 4 | 171 => 166 | 0 => 0 | 53 => 25 | 37 => 29 | 5 => 5 | 173 => 169 | 212 => 184 | 51 => 185 | 20 => 20 | 213 => 186 | 46 => 175 | 232 => 194 | 233 => 195 | n => n, fun | 17 => 9 | 18 => 12 | 19 => 13 | n => n⟩
theorem Tryd.lays171 : Go.Proofs.Lays.n171 Tryd.prog Tryd.lays171_ren := {
  mixed := by kernel_rfl
  f129 := Tryd.func177.trans (congrArg some (by kernel_rfl))
  f171 := Tryd.func182.trans (congrArg some (by kernel_rfl))
  f243 := Tryd.func185.trans (congrArg some (by kernel_rfl))
  f246 := Tryd.func186.trans (congrArg some (by kernel_rfl))
  f283 := Tryd.func163.trans (congrArg some (by kernel_rfl))
  f284 := Tryd.func164.trans (congrArg some (by kernel_rfl))
  f285 := Tryd.func165.trans (congrArg some (by kernel_rfl))
  f286 := Tryd.func166.trans (congrArg some (by kernel_rfl))
  f317 := Tryd.func176.trans (congrArg some (by kernel_rfl))
  f318 := Tryd.func178.trans (congrArg some (by kernel_rfl))
  f319 := Tryd.func179.trans (congrArg some (by kernel_rfl))
  f320 := Tryd.func180.trans (congrArg some (by kernel_rfl))
  f337 := Tryd.func183.trans (congrArg some (by kernel_rfl))
  f338 := Tryd.func184.trans (congrArg some (by kernel_rfl))
  t0 := Tryd.underlying0
  a0 := Tryd.isAgg0
  z0 := Tryd.sizeOf0
  v0 := Tryd.zeroValue0
  t2 := Tryd.underlying2
  a2 := Tryd.isAgg2
  z2 := Tryd.sizeOf2
  v2 := Tryd.zeroValue2
  t3 := Tryd.underlying3
  a3 := Tryd.isAgg3
  z3 := Tryd.sizeOf3
  v3 := Tryd.zeroValue3
  t4 := Tryd.underlying4
  a4 := Tryd.isAgg4
  z4 := Tryd.sizeOf4
  v4 := Tryd.zeroValue4
  t5 := Tryd.underlying5
  a5 := Tryd.isAgg5
  z5 := Tryd.sizeOf5
  v5 := Tryd.zeroValue5
  t9 := Tryd.underlying9
  a9 := Tryd.isAgg9
  z9 := Tryd.sizeOf9
  v9 := Tryd.zeroValue9
  t20 := Tryd.underlying20
  a20 := Tryd.isAgg20
  z20 := Tryd.sizeOf20
  v20 := Tryd.zeroValue20
  t37 := Tryd.underlying29
  a37 := Tryd.isAgg29
  z37 := Tryd.sizeOf29
  v37 := Tryd.zeroValue29
  t46 := Tryd.underlying175
  a46 := Tryd.isAgg175
  z46 := Tryd.sizeOf175
  v46 := Tryd.zeroValue175
  t51 := Tryd.underlying185
  a51 := Tryd.isAgg185
  z51 := Tryd.sizeOf185
  v51 := Tryd.zeroValue185
  t53 := Tryd.underlying25
  a53 := Tryd.isAgg25
  z53 := Tryd.sizeOf25
  v53 := Tryd.zeroValue25
  t171 := Tryd.underlying166
  a171 := Tryd.isAgg166
  z171 := Tryd.sizeOf166
  v171 := Tryd.zeroValue166
  t173 := Tryd.underlying169
  a173 := Tryd.isAgg169
  z173 := Tryd.sizeOf169
  v173 := Tryd.zeroValue169
  t212 := Tryd.underlying184
  a212 := Tryd.isAgg184
  z212 := Tryd.sizeOf184
  v212 := Tryd.zeroValue184
  t213 := Tryd.underlying186
  a213 := Tryd.isAgg186
  z213 := Tryd.sizeOf186
  t232 := Tryd.underlying194
  a232 := Tryd.isAgg194
  z232 := Tryd.sizeOf194
  v232 := Tryd.zeroValue194
  t233 := Tryd.underlying195
  a233 := Tryd.isAgg195
  z233 := Tryd.sizeOf195
  v233 := Tryd.zeroValue195
  g17 := by kernel_rfl
  g18 := by kernel_rfl
  g19 := by kernel_rfl }
open Go.RowKit Go.Sort Go.Lib in
/-- THE ROAD WITHOUT THE TABLE: 0 <= i < 100: NO PREMISE ON THE WORLD, AND THE WORLD IS AS IT WAS: a row that keeps its argument in that range need list no table ('laid = []'). (LAID: no walk: one application.) -/
theorem Tryd.strconv_Itoa_small (i : Nat) (hi : i < 100) (w : World) :
    Calls Tryd.prog 182 #[.int .i64 i] w fun e w' => e = .returned (.string ⟨(Lib.decDigits i).toArray⟩) ∧ w' = w := Any.strconv_Itoa_small Tryd.lays171 i hi w
def Tryd.lays321_ren : Go.Shelf.Ren := ⟨fun | 321 => 169 | n => n, fun | 5 => 5 | n => n, fun | n => n⟩
theorem Tryd.lays321 : Go.Proofs.Lays.n321 Tryd.prog Tryd.lays321_ren := {
  mixed := by kernel_rfl
  f321 := Tryd.func169.trans (congrArg some (by kernel_rfl))
  t5 := Tryd.underlying5
  a5 := Tryd.isAgg5
  z5 := Tryd.sizeOf5
  v5 := Tryd.zeroValue5 }
open Go.RowKit in
/-- internal/strconv.lower: 'c | ('x' - 'X')': the bit 32 set. The world is as it was. (LAID: no walk: one application.) -/
theorem Tryd.internal_strconv_lower (c : Int) (w : World) :
    Calls Tryd.prog 169 #[.int .u8 c] w fun e w' => e = .returned (.int .u8 (bits .or .u8 c 32)) ∧ w' = w := Any.internal_strconv_lower Tryd.lays321 c w
def Tryd.lays287_ren : Go.Shelf.Ren := ⟨fun | 287 => 154 | 321 => 169 | 322 => 170 | n => n, fun | 9 => 9 | 3 => 3 | 53 => 25 | 75 => 79 | 4 => 4 | 167 => 173 | 5 => 5 | 46 => 175 | 37 => 29 | 0 => 0 | 21 => 21 | 80 => 86 | n => n, fun | n => n⟩
theorem Tryd.lays287 : Go.Proofs.Lays.n287 Tryd.prog Tryd.lays287_ren := {
  mixed := by kernel_rfl
  f287 := Tryd.func154.trans (congrArg some (by kernel_rfl))
  f321 := Tryd.func169.trans (congrArg some (by kernel_rfl))
  f322 := Tryd.func170.trans (congrArg some (by kernel_rfl))
  t0 := Tryd.underlying0
  a0 := Tryd.isAgg0
  z0 := Tryd.sizeOf0
  v0 := Tryd.zeroValue0
  t3 := Tryd.underlying3
  a3 := Tryd.isAgg3
  z3 := Tryd.sizeOf3
  v3 := Tryd.zeroValue3
  t4 := Tryd.underlying4
  a4 := Tryd.isAgg4
  z4 := Tryd.sizeOf4
  v4 := Tryd.zeroValue4
  t5 := Tryd.underlying5
  a5 := Tryd.isAgg5
  z5 := Tryd.sizeOf5
  v5 := Tryd.zeroValue5
  t9 := Tryd.underlying9
  a9 := Tryd.isAgg9
  z9 := Tryd.sizeOf9
  v9 := Tryd.zeroValue9
  t21 := Tryd.underlying21
  a21 := Tryd.isAgg21
  z21 := Tryd.sizeOf21
  v21 := Tryd.zeroValue21
  t37 := Tryd.underlying29
  a37 := Tryd.isAgg29
  z37 := Tryd.sizeOf29
  v37 := Tryd.zeroValue29
  t46 := Tryd.underlying175
  a46 := Tryd.isAgg175
  z46 := Tryd.sizeOf175
  v46 := Tryd.zeroValue175
  t53 := Tryd.underlying25
  a53 := Tryd.isAgg25
  z53 := Tryd.sizeOf25
  v53 := Tryd.zeroValue25
  t75 := Tryd.underlying79
  a75 := Tryd.isAgg79
  z75 := Tryd.sizeOf79
  v75 := Tryd.zeroValue79
  t167 := Tryd.underlying173
  a167 := Tryd.isAgg173
  z167 := Tryd.sizeOf173
  v167 := Tryd.zeroValue173 }
open Go.RowKit in
/-- internal/strconv.ParseUint(s, 10, 0), s NOT EMPTY: 'Lib.parseUint10 0' OF ITS BYTES: the number; or (0, ErrSyntax); or (the greatest uint64, ErrRange). The world behind the call: the one new row that '[]byte(s)' lays. (LAID: no walk: one application.) -/
theorem Tryd.internal_strconv_ParseUint_10 (t : ByteArray) (hne : t.size ≠ 0) (hmax : t.size ≤ 9223372036854775806) (w : World) :
    Calls Tryd.prog 154 #[.string t, .int .i64 10, .int .i64 0] w fun e w' => e = .returned (Lib.uintTuple 173 (Lib.parseUint10 0 t.data.toList)) ∧ w' = Lib.bytesWorld w 5 t := Any.internal_strconv_ParseUint_10 Tryd.lays287 t hne hmax w
open Go.RowKit in
/-- internal/strconv.ParseUint("", base, bitSize): (0, ErrSyntax): the first test of the text. The world is as it was. (LAID: no walk: one application.) -/
theorem Tryd.internal_strconv_ParseUint_empty (base bits : Int) (w : World) :
    Calls Tryd.prog 154 #[.string ⟨#[]⟩, .int .i64 base, .int .i64 bits] w fun e w' => e = .returned (.tuple #[.int .u64 0, .iface 173 (.int .i64 2)]) ∧ w' = w := Any.internal_strconv_ParseUint_empty Tryd.lays287 base bits w
open Go.RowKit in
/-- internal/strconv.ParseUint(s, 10, 64), s NOT EMPTY: 'Lib.parseUint10 0' OF ITS BYTES: the number; or (0, ErrSyntax); or (the greatest uint64, ErrRange). The world behind the call: the one new row that '[]byte(s)' lays. (LAID: no walk: one application.) -/
theorem Tryd.internal_strconv_ParseUint_10_b64 (t : ByteArray) (hne : t.size ≠ 0) (hmax : t.size ≤ 9223372036854775806) (w : World) :
    Calls Tryd.prog 154 #[.string t, .int .i64 10, .int .i64 64] w fun e w' => e = .returned (Lib.uintTuple 173 (Lib.parseUint10 0 t.data.toList)) ∧ w' = Lib.bytesWorld w 5 t := Any.internal_strconv_ParseUint_10_b64 Tryd.lays287 t hne hmax w
open Go.RowKit in
/-- internal/strconv.ParseUint(s, 10, 32), s NOT EMPTY: 'Lib.parseUintM 4294967295 0' OF ITS BYTES: the number; or (0, ErrSyntax); or (the greatest uint32, ErrRange). The world behind the call: the one new row that '[]byte(s)' lays. (LAID: no walk: one application.) -/
theorem Tryd.internal_strconv_ParseUint_10_b32 (t : ByteArray) (hne : t.size ≠ 0) (hmax : t.size ≤ 9223372036854775806) (w : World) :
    Calls Tryd.prog 154 #[.string t, .int .i64 10, .int .i64 32] w fun e w' => e = .returned (Lib.uintTupleM 173 4294967295 (Lib.parseUintM 4294967295 0 t.data.toList)) ∧ w' = Lib.bytesWorld w 5 t := Any.internal_strconv_ParseUint_10_b32 Tryd.lays287 t hne hmax w
open Go.RowKit in
/-- internal/strconv.ParseUint(s, 10, 16), s NOT EMPTY: 'Lib.parseUintM 65535 0' OF ITS BYTES: the number; or (0, ErrSyntax); or (the greatest uint16, ErrRange). The world behind the call: the one new row that '[]byte(s)' lays. (LAID: no walk: one application.) -/
theorem Tryd.internal_strconv_ParseUint_10_b16 (t : ByteArray) (hne : t.size ≠ 0) (hmax : t.size ≤ 9223372036854775806) (w : World) :
    Calls Tryd.prog 154 #[.string t, .int .i64 10, .int .i64 16] w fun e w' => e = .returned (Lib.uintTupleM 173 65535 (Lib.parseUintM 65535 0 t.data.toList)) ∧ w' = Lib.bytesWorld w 5 t := Any.internal_strconv_ParseUint_10_b16 Tryd.lays287 t hne hmax w
open Go.RowKit in
/-- internal/strconv.ParseUint(s, 10, 8), s NOT EMPTY: 'Lib.parseUintM 255 0' OF ITS BYTES: the number; or (0, ErrSyntax); or (the greatest uint8, ErrRange). The world behind the call: the one new row that '[]byte(s)' lays. (LAID: no walk: one application.) -/
theorem Tryd.internal_strconv_ParseUint_10_b8 (t : ByteArray) (hne : t.size ≠ 0) (hmax : t.size ≤ 9223372036854775806) (w : World) :
    Calls Tryd.prog 154 #[.string t, .int .i64 10, .int .i64 8] w fun e w' => e = .returned (Lib.uintTupleM 173 255 (Lib.parseUintM 255 0 t.data.toList)) ∧ w' = Lib.bytesWorld w 5 t := Any.internal_strconv_ParseUint_10_b8 Tryd.lays287 t hne hmax w
open Go.RowKit in
/-- internal/strconv.ParseUint(s, 10, 0): 'Lib.parseUintB 64' OF ITS BYTES. The world: as it was (the empty string), or with the one new row that '[]byte(s)' lays. (LAID: no walk: one application.) -/
theorem Tryd.internal_strconv_ParseUint_10_at0 (t : ByteArray) (hmax : t.size ≤ 9223372036854775806) (w : World) :
    Calls Tryd.prog 154 #[.string t, .int .i64 10, .int .i64 0] w fun e w' => e = .returned (Lib.uintTupleM 173 18446744073709551615 (Lib.parseUintB 64 t.data.toList)) ∧ (w' = w ∨ w' = Lib.bytesWorld w 5 t) := Any.internal_strconv_ParseUint_10_at0 Tryd.lays287 t hmax w
open Go.RowKit in
/-- internal/strconv.ParseUint(s, 10, 64): 'Lib.parseUintB 64' OF ITS BYTES. The world: as it was (the empty string), or with the one new row that '[]byte(s)' lays. (LAID: no walk: one application.) -/
theorem Tryd.internal_strconv_ParseUint_10_at64 (t : ByteArray) (hmax : t.size ≤ 9223372036854775806) (w : World) :
    Calls Tryd.prog 154 #[.string t, .int .i64 10, .int .i64 64] w fun e w' => e = .returned (Lib.uintTupleM 173 18446744073709551615 (Lib.parseUintB 64 t.data.toList)) ∧ (w' = w ∨ w' = Lib.bytesWorld w 5 t) := Any.internal_strconv_ParseUint_10_at64 Tryd.lays287 t hmax w
open Go.RowKit in
/-- internal/strconv.ParseUint(s, 10, 32): 'Lib.parseUintB 32' OF ITS BYTES. The world: as it was (the empty string), or with the one new row that '[]byte(s)' lays. (LAID: no walk: one application.) -/
theorem Tryd.internal_strconv_ParseUint_10_at32 (t : ByteArray) (hmax : t.size ≤ 9223372036854775806) (w : World) :
    Calls Tryd.prog 154 #[.string t, .int .i64 10, .int .i64 32] w fun e w' => e = .returned (Lib.uintTupleM 173 4294967295 (Lib.parseUintB 32 t.data.toList)) ∧ (w' = w ∨ w' = Lib.bytesWorld w 5 t) := Any.internal_strconv_ParseUint_10_at32 Tryd.lays287 t hmax w
open Go.RowKit in
/-- internal/strconv.ParseUint(s, 10, 16): 'Lib.parseUintB 16' OF ITS BYTES. The world: as it was (the empty string), or with the one new row that '[]byte(s)' lays. (LAID: no walk: one application.) -/
theorem Tryd.internal_strconv_ParseUint_10_at16 (t : ByteArray) (hmax : t.size ≤ 9223372036854775806) (w : World) :
    Calls Tryd.prog 154 #[.string t, .int .i64 10, .int .i64 16] w fun e w' => e = .returned (Lib.uintTupleM 173 65535 (Lib.parseUintB 16 t.data.toList)) ∧ (w' = w ∨ w' = Lib.bytesWorld w 5 t) := Any.internal_strconv_ParseUint_10_at16 Tryd.lays287 t hmax w
open Go.RowKit in
/-- internal/strconv.ParseUint(s, 10, 8): 'Lib.parseUintB 8' OF ITS BYTES. The world: as it was (the empty string), or with the one new row that '[]byte(s)' lays. (LAID: no walk: one application.) -/
theorem Tryd.internal_strconv_ParseUint_10_at8 (t : ByteArray) (hmax : t.size ≤ 9223372036854775806) (w : World) :
    Calls Tryd.prog 154 #[.string t, .int .i64 10, .int .i64 8] w fun e w' => e = .returned (Lib.uintTupleM 173 255 (Lib.parseUintB 8 t.data.toList)) ∧ (w' = w ∨ w' = Lib.bytesWorld w 5 t) := Any.internal_strconv_ParseUint_10_at8 Tryd.lays287 t hmax w
def Tryd.laysPu14_ren : Go.Shelf.Ren := ⟨fun | 14 => 138 | 16 => 154 | 17 => 155 | 19 => 169 | 20 => 170 | 21 => 171 | 22 => 172 | 23 => 173 | 24 => 174 | 25 => 181 | 27 => 182 | 26 => 156 | 28 => 185 | 29 => 186 | 30 => 163 | 31 => 164 | 32 => 165 | 33 => 166 | 35 => 177 | 34 => 176 | 36 => 178 | 37 => 179 | 38 => 180 | 39 => 183 | 40 => 184 | n => n, fun | 9 => 9 | 3 => 3 | 22 => 25 | 24 => 79 | 25 => 132 | 4 => 4 | 34 => 173 | 5 => 5 | 36 => 175 | 37 => 29 | 0 => 0 | 39 => 176 | 21 => 21 | 44 => 191 | 47 => 193 | 50 => 181 | 48 => 179 | 2 => 2 | 52 => 166 | 55 => 169 | 59 => 184 | 60 => 185 | 20 => 20 | 61 => 186 | 65 => 194 | 66 => 195 | 67 => 86 | n => n, fun | 0 => 10 | 1 => 11 | 2 => 9 | 3 => 12 | 4 => 13 | n => n⟩
theorem Tryd.laysPu14 : Go.Proofs.LaysPu.n14 Tryd.prog Tryd.laysPu14_ren := {
  mixed := by kernel_rfl
  f14 := Tryd.func138.trans (congrArg some (by kernel_rfl))
  f16 := Tryd.func154.trans (congrArg some (by kernel_rfl))
  f17 := Tryd.func155.trans (congrArg some (by kernel_rfl))
  f19 := Tryd.func169.trans (congrArg some (by kernel_rfl))
  f20 := Tryd.func170.trans (congrArg some (by kernel_rfl))
  f21 := Tryd.func171.trans (congrArg some (by kernel_rfl))
  f22 := Tryd.func172.trans (congrArg some (by kernel_rfl))
  f23 := Tryd.func173.trans (congrArg some (by kernel_rfl))
  f24 := Tryd.func174.trans (congrArg some (by kernel_rfl))
  f25 := Tryd.func181.trans (congrArg some (by kernel_rfl))
  f26 := Tryd.func156.trans (congrArg some (by kernel_rfl))
  f27 := Tryd.func182.trans (congrArg some (by kernel_rfl))
  f28 := Tryd.func185.trans (congrArg some (by kernel_rfl))
  f29 := Tryd.func186.trans (congrArg some (by kernel_rfl))
  f30 := Tryd.func163.trans (congrArg some (by kernel_rfl))
  f31 := Tryd.func164.trans (congrArg some (by kernel_rfl))
  f32 := Tryd.func165.trans (congrArg some (by kernel_rfl))
  f33 := Tryd.func166.trans (congrArg some (by kernel_rfl))
  f34 := Tryd.func176.trans (congrArg some (by kernel_rfl))
  f35 := Tryd.func177.trans (congrArg some (by kernel_rfl))
  f36 := Tryd.func178.trans (congrArg some (by kernel_rfl))
  f37 := Tryd.func179.trans (congrArg some (by kernel_rfl))
  f38 := Tryd.func180.trans (congrArg some (by kernel_rfl))
  f39 := Tryd.func183.trans (congrArg some (by kernel_rfl))
  f40 := Tryd.func184.trans (congrArg some (by kernel_rfl))
  t0 := Tryd.underlying0
  a0 := Tryd.isAgg0
  z0 := Tryd.sizeOf0
  v0 := Tryd.zeroValue0
  i0 := by kernel_rfl
  t2 := Tryd.underlying2
  a2 := Tryd.isAgg2
  z2 := Tryd.sizeOf2
  v2 := Tryd.zeroValue2
  i2 := by kernel_rfl
  t3 := Tryd.underlying3
  a3 := Tryd.isAgg3
  z3 := Tryd.sizeOf3
  v3 := Tryd.zeroValue3
  i3 := by kernel_rfl
  t4 := Tryd.underlying4
  a4 := Tryd.isAgg4
  z4 := Tryd.sizeOf4
  v4 := Tryd.zeroValue4
  i4 := by kernel_rfl
  t5 := Tryd.underlying5
  a5 := Tryd.isAgg5
  z5 := Tryd.sizeOf5
  v5 := Tryd.zeroValue5
  i5 := by kernel_rfl
  t9 := Tryd.underlying9
  a9 := Tryd.isAgg9
  z9 := Tryd.sizeOf9
  v9 := Tryd.zeroValue9
  i9 := by kernel_rfl
  t20 := Tryd.underlying20
  a20 := Tryd.isAgg20
  z20 := Tryd.sizeOf20
  v20 := Tryd.zeroValue20
  i20 := by kernel_rfl
  t21 := Tryd.underlying21
  a21 := Tryd.isAgg21
  z21 := Tryd.sizeOf21
  v21 := Tryd.zeroValue21
  i21 := by kernel_rfl
  t22 := Tryd.underlying25
  a22 := Tryd.isAgg25
  z22 := Tryd.sizeOf25
  v22 := Tryd.zeroValue25
  i22 := by kernel_rfl
  t24 := Tryd.underlying79
  a24 := Tryd.isAgg79
  z24 := Tryd.sizeOf79
  v24 := Tryd.zeroValue79
  i24 := by kernel_rfl
  t25 := Tryd.underlying132
  a25 := Tryd.isAgg132
  z25 := Tryd.sizeOf132
  v25 := Tryd.zeroValue132
  i25 := by kernel_rfl
  t34 := Tryd.underlying173
  a34 := Tryd.isAgg173
  z34 := Tryd.sizeOf173
  v34 := Tryd.zeroValue173
  i34 := by kernel_rfl
  c34 := by kernel_rfl
  t36 := Tryd.underlying175
  a36 := Tryd.isAgg175
  z36 := Tryd.sizeOf175
  v36 := Tryd.zeroValue175
  i36 := by kernel_rfl
  t37 := Tryd.underlying29
  a37 := Tryd.isAgg29
  z37 := Tryd.sizeOf29
  v37 := Tryd.zeroValue29
  i37 := by kernel_rfl
  t39 := Tryd.underlying176
  a39 := Tryd.isAgg176
  z39 := Tryd.sizeOf176
  v39 := Tryd.zeroValue176
  i39 := by kernel_rfl
  t44 := Tryd.underlying191
  a44 := Tryd.isAgg191
  z44 := Tryd.sizeOf191
  v44 := Tryd.zeroValue191
  i44 := by kernel_rfl
  t47 := Tryd.underlying193
  a47 := Tryd.isAgg193
  z47 := Tryd.sizeOf193
  v47 := Tryd.zeroValue193
  i47 := by kernel_rfl
  t48 := Tryd.underlying179
  a48 := Tryd.isAgg179
  z48 := Tryd.sizeOf179
  v48 := Tryd.zeroValue179
  i48 := by kernel_rfl
  t50 := Tryd.underlying181
  a50 := Tryd.isAgg181
  z50 := Tryd.sizeOf181
  v50 := Tryd.zeroValue181
  i50 := by kernel_rfl
  t52 := Tryd.underlying166
  a52 := Tryd.isAgg166
  z52 := Tryd.sizeOf166
  v52 := Tryd.zeroValue166
  i52 := by kernel_rfl
  t55 := Tryd.underlying169
  a55 := Tryd.isAgg169
  z55 := Tryd.sizeOf169
  v55 := Tryd.zeroValue169
  i55 := by kernel_rfl
  t59 := Tryd.underlying184
  a59 := Tryd.isAgg184
  z59 := Tryd.sizeOf184
  v59 := Tryd.zeroValue184
  i59 := by kernel_rfl
  t60 := Tryd.underlying185
  a60 := Tryd.isAgg185
  z60 := Tryd.sizeOf185
  v60 := Tryd.zeroValue185
  i60 := by kernel_rfl
  t61 := Tryd.underlying186
  a61 := Tryd.isAgg186
  z61 := Tryd.sizeOf186
  t65 := Tryd.underlying194
  a65 := Tryd.isAgg194
  z65 := Tryd.sizeOf194
  v65 := Tryd.zeroValue194
  i65 := by kernel_rfl
  t66 := Tryd.underlying195
  a66 := Tryd.isAgg195
  z66 := Tryd.sizeOf195
  v66 := Tryd.zeroValue195
  i66 := by kernel_rfl
  t67 := Tryd.underlying86
  a67 := Tryd.isAgg86
  z67 := Tryd.sizeOf86
  v67 := Tryd.zeroValue86
  i67 := by kernel_rfl
  g0 := by kernel_rfl
  m0 := by kernel_rfl
  g1 := by kernel_rfl
  m1 := by kernel_rfl
  g2 := by kernel_rfl
  m2 := by kernel_rfl
  g3 := by kernel_rfl
  m3 := by kernel_rfl
  g4 := by kernel_rfl
  m4 := by kernel_rfl }
open Go.RowKit in
/-- strconv.ParseUint(s, 10, 0), AT EVERY STRING THAT SPELLS A uint64 ('Lib.parseUintB 64 s.data.toList = .ok u'): u, AND NO ERROR. (LAID: no walk: one application.) -/
theorem Tryd.strconv_ParseUint_10_at0_ok (s : ByteArray) (hmax : s.size ≤ 9223372036854775806) (u : Nat) (h : Lib.parseUintB 64 s.data.toList = .ok u) (w : World) :
    Calls Tryd.prog 138 #[.string s, .int .i64 10, .int .i64 0] w fun e w' => e = .returned (.tuple #[.int .u64 u, .nilIface]) ∧ (w' = w ∨ w' = Lib.bytesWorld w 5 s) := Any.strconv_ParseUint_10_at0_ok Tryd.laysPu14 s hmax u h w
open Go.RowKit in
/-- strconv.ParseUint(s, 10, 0), AT EVERY STRING THAT IS NO ROW OF DECIMAL DIGITS (a sign is a fault): 0, AND AN ERROR THAT IS NOT nil: a *NumError in a new block N: {Func: "ParseUint", Num: s's bytes, Err: what the variable ErrSyntax holds}. Of what was there nothing has turned. (LAID: no walk: one application.) -/
theorem Tryd.strconv_ParseUint_10_at0_syntax (s : ByteArray) (hlim : s.size ≤ 281474976710656) (h : Lib.parseUintB 64 s.data.toList = Lib.parseUintB 64 []) (ev : Value) (w : World) (hv : w.cell? ⟨10, 0, none⟩ = some ev) (hev : ev = .nilIface ∨ ∃ te pe, ev = .iface te pe) :
    Calls Tryd.prog 138 #[.string s, .int .i64 10, .int .i64 0] w fun e w' => ∃ N, e = .returned (.tuple #[.int .u64 0, .iface 176 (.pointer (some ⟨N, 0, none⟩))]) ∧ w.heap.size ≤ N ∧ w'.heap[N]? = some (.cells #[.string ⟨#[80, 97, 114, 115, 101, 85, 105, 110, 116]⟩, .string s, ev] 191 (0, 0)) ∧ Below w.heap.size w w' := Any.strconv_ParseUint_10_at0_syntax Tryd.laysPu14 s hlim h ev w hv hev
open Go.RowKit in
/-- strconv.ParseUint(s, 10, 0), AT EVERY NUMERAL THAT NO uint64 HOLDS: THE GREATEST uint64, AND AN ERROR THAT IS NOT nil: a *NumError in a new block N: {Func: "ParseUint", Num: s's bytes, Err: what the variable ErrRange holds}. Of what was there nothing has turned. (LAID: no walk: one application.) -/
theorem Tryd.strconv_ParseUint_10_at0_range (s : ByteArray) (hlim : s.size ≤ 281474976710656) (h : Lib.parseUintB 64 s.data.toList = .range) (ev : Value) (w : World) (hv : w.cell? ⟨11, 0, none⟩ = some ev) (hev : ev = .nilIface ∨ ∃ te pe, ev = .iface te pe) :
    Calls Tryd.prog 138 #[.string s, .int .i64 10, .int .i64 0] w fun e w' => ∃ N, e = .returned (.tuple #[.int .u64 18446744073709551615, .iface 176 (.pointer (some ⟨N, 0, none⟩))]) ∧ w.heap.size ≤ N ∧ w'.heap[N]? = some (.cells #[.string ⟨#[80, 97, 114, 115, 101, 85, 105, 110, 116]⟩, .string s, ev] 191 (0, 0)) ∧ Below w.heap.size w w' := Any.strconv_ParseUint_10_at0_range Tryd.laysPu14 s hlim h ev w hv hev
open Go.RowKit in
/-- strconv.ParseUint(s, 10, 64), AT EVERY STRING THAT SPELLS A uint64 ('Lib.parseUintB 64 s.data.toList = .ok u'): u, AND NO ERROR. (LAID: no walk: one application.) -/
theorem Tryd.strconv_ParseUint_10_at64_ok (s : ByteArray) (hmax : s.size ≤ 9223372036854775806) (u : Nat) (h : Lib.parseUintB 64 s.data.toList = .ok u) (w : World) :
    Calls Tryd.prog 138 #[.string s, .int .i64 10, .int .i64 64] w fun e w' => e = .returned (.tuple #[.int .u64 u, .nilIface]) ∧ (w' = w ∨ w' = Lib.bytesWorld w 5 s) := Any.strconv_ParseUint_10_at64_ok Tryd.laysPu14 s hmax u h w
open Go.RowKit in
/-- strconv.ParseUint(s, 10, 64), AT EVERY STRING THAT IS NO ROW OF DECIMAL DIGITS (a sign is a fault): 0, AND AN ERROR THAT IS NOT nil: a *NumError in a new block N: {Func: "ParseUint", Num: s's bytes, Err: what the variable ErrSyntax holds}. Of what was there nothing has turned. (LAID: no walk: one application.) -/
theorem Tryd.strconv_ParseUint_10_at64_syntax (s : ByteArray) (hlim : s.size ≤ 281474976710656) (h : Lib.parseUintB 64 s.data.toList = Lib.parseUintB 64 []) (ev : Value) (w : World) (hv : w.cell? ⟨10, 0, none⟩ = some ev) (hev : ev = .nilIface ∨ ∃ te pe, ev = .iface te pe) :
    Calls Tryd.prog 138 #[.string s, .int .i64 10, .int .i64 64] w fun e w' => ∃ N, e = .returned (.tuple #[.int .u64 0, .iface 176 (.pointer (some ⟨N, 0, none⟩))]) ∧ w.heap.size ≤ N ∧ w'.heap[N]? = some (.cells #[.string ⟨#[80, 97, 114, 115, 101, 85, 105, 110, 116]⟩, .string s, ev] 191 (0, 0)) ∧ Below w.heap.size w w' := Any.strconv_ParseUint_10_at64_syntax Tryd.laysPu14 s hlim h ev w hv hev
open Go.RowKit in
/-- strconv.ParseUint(s, 10, 64), AT EVERY NUMERAL THAT NO uint64 HOLDS: THE GREATEST uint64, AND AN ERROR THAT IS NOT nil: a *NumError in a new block N: {Func: "ParseUint", Num: s's bytes, Err: what the variable ErrRange holds}. Of what was there nothing has turned. (LAID: no walk: one application.) -/
theorem Tryd.strconv_ParseUint_10_at64_range (s : ByteArray) (hlim : s.size ≤ 281474976710656) (h : Lib.parseUintB 64 s.data.toList = .range) (ev : Value) (w : World) (hv : w.cell? ⟨11, 0, none⟩ = some ev) (hev : ev = .nilIface ∨ ∃ te pe, ev = .iface te pe) :
    Calls Tryd.prog 138 #[.string s, .int .i64 10, .int .i64 64] w fun e w' => ∃ N, e = .returned (.tuple #[.int .u64 18446744073709551615, .iface 176 (.pointer (some ⟨N, 0, none⟩))]) ∧ w.heap.size ≤ N ∧ w'.heap[N]? = some (.cells #[.string ⟨#[80, 97, 114, 115, 101, 85, 105, 110, 116]⟩, .string s, ev] 191 (0, 0)) ∧ Below w.heap.size w w' := Any.strconv_ParseUint_10_at64_range Tryd.laysPu14 s hlim h ev w hv hev
open Go.RowKit in
/-- strconv.ParseUint(s, 10, 32), AT EVERY STRING THAT SPELLS A uint32 ('Lib.parseUintB 32 s.data.toList = .ok u'): u, AND NO ERROR. (LAID: no walk: one application.) -/
theorem Tryd.strconv_ParseUint_10_at32_ok (s : ByteArray) (hmax : s.size ≤ 9223372036854775806) (u : Nat) (h : Lib.parseUintB 32 s.data.toList = .ok u) (w : World) :
    Calls Tryd.prog 138 #[.string s, .int .i64 10, .int .i64 32] w fun e w' => e = .returned (.tuple #[.int .u64 u, .nilIface]) ∧ (w' = w ∨ w' = Lib.bytesWorld w 5 s) := Any.strconv_ParseUint_10_at32_ok Tryd.laysPu14 s hmax u h w
open Go.RowKit in
/-- strconv.ParseUint(s, 10, 32), AT EVERY STRING THAT IS NO ROW OF DECIMAL DIGITS (a sign is a fault): 0, AND AN ERROR THAT IS NOT nil: a *NumError in a new block N: {Func: "ParseUint", Num: s's bytes, Err: what the variable ErrSyntax holds}. Of what was there nothing has turned. (LAID: no walk: one application.) -/
theorem Tryd.strconv_ParseUint_10_at32_syntax (s : ByteArray) (hlim : s.size ≤ 281474976710656) (h : Lib.parseUintB 32 s.data.toList = Lib.parseUintB 32 []) (ev : Value) (w : World) (hv : w.cell? ⟨10, 0, none⟩ = some ev) (hev : ev = .nilIface ∨ ∃ te pe, ev = .iface te pe) :
    Calls Tryd.prog 138 #[.string s, .int .i64 10, .int .i64 32] w fun e w' => ∃ N, e = .returned (.tuple #[.int .u64 0, .iface 176 (.pointer (some ⟨N, 0, none⟩))]) ∧ w.heap.size ≤ N ∧ w'.heap[N]? = some (.cells #[.string ⟨#[80, 97, 114, 115, 101, 85, 105, 110, 116]⟩, .string s, ev] 191 (0, 0)) ∧ Below w.heap.size w w' := Any.strconv_ParseUint_10_at32_syntax Tryd.laysPu14 s hlim h ev w hv hev
open Go.RowKit in
/-- strconv.ParseUint(s, 10, 32), AT EVERY NUMERAL THAT NO uint32 HOLDS: THE GREATEST uint32, AND AN ERROR THAT IS NOT nil: a *NumError in a new block N: {Func: "ParseUint", Num: s's bytes, Err: what the variable ErrRange holds}. Of what was there nothing has turned. (LAID: no walk: one application.) -/
theorem Tryd.strconv_ParseUint_10_at32_range (s : ByteArray) (hlim : s.size ≤ 281474976710656) (h : Lib.parseUintB 32 s.data.toList = .range) (ev : Value) (w : World) (hv : w.cell? ⟨11, 0, none⟩ = some ev) (hev : ev = .nilIface ∨ ∃ te pe, ev = .iface te pe) :
    Calls Tryd.prog 138 #[.string s, .int .i64 10, .int .i64 32] w fun e w' => ∃ N, e = .returned (.tuple #[.int .u64 4294967295, .iface 176 (.pointer (some ⟨N, 0, none⟩))]) ∧ w.heap.size ≤ N ∧ w'.heap[N]? = some (.cells #[.string ⟨#[80, 97, 114, 115, 101, 85, 105, 110, 116]⟩, .string s, ev] 191 (0, 0)) ∧ Below w.heap.size w w' := Any.strconv_ParseUint_10_at32_range Tryd.laysPu14 s hlim h ev w hv hev
open Go.RowKit in
/-- strconv.ParseUint(s, 10, 16), AT EVERY STRING THAT SPELLS A uint16 ('Lib.parseUintB 16 s.data.toList = .ok u'): u, AND NO ERROR. (LAID: no walk: one application.) -/
theorem Tryd.strconv_ParseUint_10_at16_ok (s : ByteArray) (hmax : s.size ≤ 9223372036854775806) (u : Nat) (h : Lib.parseUintB 16 s.data.toList = .ok u) (w : World) :
    Calls Tryd.prog 138 #[.string s, .int .i64 10, .int .i64 16] w fun e w' => e = .returned (.tuple #[.int .u64 u, .nilIface]) ∧ (w' = w ∨ w' = Lib.bytesWorld w 5 s) := Any.strconv_ParseUint_10_at16_ok Tryd.laysPu14 s hmax u h w
open Go.RowKit in
/-- strconv.ParseUint(s, 10, 16), AT EVERY STRING THAT IS NO ROW OF DECIMAL DIGITS (a sign is a fault): 0, AND AN ERROR THAT IS NOT nil: a *NumError in a new block N: {Func: "ParseUint", Num: s's bytes, Err: what the variable ErrSyntax holds}. Of what was there nothing has turned. (LAID: no walk: one application.) -/
theorem Tryd.strconv_ParseUint_10_at16_syntax (s : ByteArray) (hlim : s.size ≤ 281474976710656) (h : Lib.parseUintB 16 s.data.toList = Lib.parseUintB 16 []) (ev : Value) (w : World) (hv : w.cell? ⟨10, 0, none⟩ = some ev) (hev : ev = .nilIface ∨ ∃ te pe, ev = .iface te pe) :
    Calls Tryd.prog 138 #[.string s, .int .i64 10, .int .i64 16] w fun e w' => ∃ N, e = .returned (.tuple #[.int .u64 0, .iface 176 (.pointer (some ⟨N, 0, none⟩))]) ∧ w.heap.size ≤ N ∧ w'.heap[N]? = some (.cells #[.string ⟨#[80, 97, 114, 115, 101, 85, 105, 110, 116]⟩, .string s, ev] 191 (0, 0)) ∧ Below w.heap.size w w' := Any.strconv_ParseUint_10_at16_syntax Tryd.laysPu14 s hlim h ev w hv hev
open Go.RowKit in
/-- strconv.ParseUint(s, 10, 16), AT EVERY NUMERAL THAT NO uint16 HOLDS: THE GREATEST uint16, AND AN ERROR THAT IS NOT nil: a *NumError in a new block N: {Func: "ParseUint", Num: s's bytes, Err: what the variable ErrRange holds}. Of what was there nothing has turned. (LAID: no walk: one application.) -/
theorem Tryd.strconv_ParseUint_10_at16_range (s : ByteArray) (hlim : s.size ≤ 281474976710656) (h : Lib.parseUintB 16 s.data.toList = .range) (ev : Value) (w : World) (hv : w.cell? ⟨11, 0, none⟩ = some ev) (hev : ev = .nilIface ∨ ∃ te pe, ev = .iface te pe) :
    Calls Tryd.prog 138 #[.string s, .int .i64 10, .int .i64 16] w fun e w' => ∃ N, e = .returned (.tuple #[.int .u64 65535, .iface 176 (.pointer (some ⟨N, 0, none⟩))]) ∧ w.heap.size ≤ N ∧ w'.heap[N]? = some (.cells #[.string ⟨#[80, 97, 114, 115, 101, 85, 105, 110, 116]⟩, .string s, ev] 191 (0, 0)) ∧ Below w.heap.size w w' := Any.strconv_ParseUint_10_at16_range Tryd.laysPu14 s hlim h ev w hv hev
open Go.RowKit in
/-- strconv.ParseUint(s, 10, 8), AT EVERY STRING THAT SPELLS A uint8 ('Lib.parseUintB 8 s.data.toList = .ok u'): u, AND NO ERROR. (LAID: no walk: one application.) -/
theorem Tryd.strconv_ParseUint_10_at8_ok (s : ByteArray) (hmax : s.size ≤ 9223372036854775806) (u : Nat) (h : Lib.parseUintB 8 s.data.toList = .ok u) (w : World) :
    Calls Tryd.prog 138 #[.string s, .int .i64 10, .int .i64 8] w fun e w' => e = .returned (.tuple #[.int .u64 u, .nilIface]) ∧ (w' = w ∨ w' = Lib.bytesWorld w 5 s) := Any.strconv_ParseUint_10_at8_ok Tryd.laysPu14 s hmax u h w
open Go.RowKit in
/-- strconv.ParseUint(s, 10, 8), AT EVERY STRING THAT IS NO ROW OF DECIMAL DIGITS (a sign is a fault): 0, AND AN ERROR THAT IS NOT nil: a *NumError in a new block N: {Func: "ParseUint", Num: s's bytes, Err: what the variable ErrSyntax holds}. Of what was there nothing has turned. (LAID: no walk: one application.) -/
theorem Tryd.strconv_ParseUint_10_at8_syntax (s : ByteArray) (hlim : s.size ≤ 281474976710656) (h : Lib.parseUintB 8 s.data.toList = Lib.parseUintB 8 []) (ev : Value) (w : World) (hv : w.cell? ⟨10, 0, none⟩ = some ev) (hev : ev = .nilIface ∨ ∃ te pe, ev = .iface te pe) :
    Calls Tryd.prog 138 #[.string s, .int .i64 10, .int .i64 8] w fun e w' => ∃ N, e = .returned (.tuple #[.int .u64 0, .iface 176 (.pointer (some ⟨N, 0, none⟩))]) ∧ w.heap.size ≤ N ∧ w'.heap[N]? = some (.cells #[.string ⟨#[80, 97, 114, 115, 101, 85, 105, 110, 116]⟩, .string s, ev] 191 (0, 0)) ∧ Below w.heap.size w w' := Any.strconv_ParseUint_10_at8_syntax Tryd.laysPu14 s hlim h ev w hv hev
open Go.RowKit in
/-- strconv.ParseUint(s, 10, 8), AT EVERY NUMERAL THAT NO uint8 HOLDS: THE GREATEST uint8, AND AN ERROR THAT IS NOT nil: a *NumError in a new block N: {Func: "ParseUint", Num: s's bytes, Err: what the variable ErrRange holds}. Of what was there nothing has turned. (LAID: no walk: one application.) -/
theorem Tryd.strconv_ParseUint_10_at8_range (s : ByteArray) (hlim : s.size ≤ 281474976710656) (h : Lib.parseUintB 8 s.data.toList = .range) (ev : Value) (w : World) (hv : w.cell? ⟨11, 0, none⟩ = some ev) (hev : ev = .nilIface ∨ ∃ te pe, ev = .iface te pe) :
    Calls Tryd.prog 138 #[.string s, .int .i64 10, .int .i64 8] w fun e w' => ∃ N, e = .returned (.tuple #[.int .u64 255, .iface 176 (.pointer (some ⟨N, 0, none⟩))]) ∧ w.heap.size ≤ N ∧ w'.heap[N]? = some (.cells #[.string ⟨#[80, 97, 114, 115, 101, 85, 105, 110, 116]⟩, .string s, ev] 191 (0, 0)) ∧ Below w.heap.size w w' := Any.strconv_ParseUint_10_at8_range Tryd.laysPu14 s hlim h ev w hv hev
open Go.RowKit in
theorem Tryd.strconv_ParseUint_10_at0_syntax_var (s : ByteArray) (hlim : s.size ≤ 281474976710656) (h : Lib.parseUintB 64 s.data.toList = Lib.parseUintB 64 []) (tp : TypeId) (p : Value) (w : World) (hvar : w.var? Tryd.prog "strconv.ErrSyntax" = some #[.iface tp p]) :
    Calls Tryd.prog 138 #[.string s, .int .i64 10, .int .i64 0] w fun e w' => ∃ N, e = .returned (.tuple #[.int .u64 0, .iface 176 (.pointer (some ⟨N, 0, none⟩))]) ∧ w.heap.size ≤ N ∧ w'.heap[N]? = some (.cells #[.string ⟨#[80, 97, 114, 115, 101, 85, 105, 110, 116]⟩, .string s, .iface tp p] 191 (0, 0)) ∧ Below w.heap.size w w' := Any.strconv_ParseUint_10_at0_syntax_var Tryd.laysPu14 s hlim h tp p w hvar
open Go.RowKit in
theorem Tryd.strconv_ParseUint_10_at0_range_var (s : ByteArray) (hlim : s.size ≤ 281474976710656) (h : Lib.parseUintB 64 s.data.toList = .range) (tp : TypeId) (p : Value) (w : World) (hvar : w.var? Tryd.prog "strconv.ErrRange" = some #[.iface tp p]) :
    Calls Tryd.prog 138 #[.string s, .int .i64 10, .int .i64 0] w fun e w' => ∃ N, e = .returned (.tuple #[.int .u64 18446744073709551615, .iface 176 (.pointer (some ⟨N, 0, none⟩))]) ∧ w.heap.size ≤ N ∧ w'.heap[N]? = some (.cells #[.string ⟨#[80, 97, 114, 115, 101, 85, 105, 110, 116]⟩, .string s, .iface tp p] 191 (0, 0)) ∧ Below w.heap.size w w' := Any.strconv_ParseUint_10_at0_range_var Tryd.laysPu14 s hlim h tp p w hvar
open Go.RowKit in
theorem Tryd.strconv_ParseUint_10_at64_syntax_var (s : ByteArray) (hlim : s.size ≤ 281474976710656) (h : Lib.parseUintB 64 s.data.toList = Lib.parseUintB 64 []) (tp : TypeId) (p : Value) (w : World) (hvar : w.var? Tryd.prog "strconv.ErrSyntax" = some #[.iface tp p]) :
    Calls Tryd.prog 138 #[.string s, .int .i64 10, .int .i64 64] w fun e w' => ∃ N, e = .returned (.tuple #[.int .u64 0, .iface 176 (.pointer (some ⟨N, 0, none⟩))]) ∧ w.heap.size ≤ N ∧ w'.heap[N]? = some (.cells #[.string ⟨#[80, 97, 114, 115, 101, 85, 105, 110, 116]⟩, .string s, .iface tp p] 191 (0, 0)) ∧ Below w.heap.size w w' := Any.strconv_ParseUint_10_at64_syntax_var Tryd.laysPu14 s hlim h tp p w hvar
open Go.RowKit in
theorem Tryd.strconv_ParseUint_10_at64_range_var (s : ByteArray) (hlim : s.size ≤ 281474976710656) (h : Lib.parseUintB 64 s.data.toList = .range) (tp : TypeId) (p : Value) (w : World) (hvar : w.var? Tryd.prog "strconv.ErrRange" = some #[.iface tp p]) :
    Calls Tryd.prog 138 #[.string s, .int .i64 10, .int .i64 64] w fun e w' => ∃ N, e = .returned (.tuple #[.int .u64 18446744073709551615, .iface 176 (.pointer (some ⟨N, 0, none⟩))]) ∧ w.heap.size ≤ N ∧ w'.heap[N]? = some (.cells #[.string ⟨#[80, 97, 114, 115, 101, 85, 105, 110, 116]⟩, .string s, .iface tp p] 191 (0, 0)) ∧ Below w.heap.size w w' := Any.strconv_ParseUint_10_at64_range_var Tryd.laysPu14 s hlim h tp p w hvar
open Go.RowKit in
theorem Tryd.strconv_ParseUint_10_at32_syntax_var (s : ByteArray) (hlim : s.size ≤ 281474976710656) (h : Lib.parseUintB 32 s.data.toList = Lib.parseUintB 32 []) (tp : TypeId) (p : Value) (w : World) (hvar : w.var? Tryd.prog "strconv.ErrSyntax" = some #[.iface tp p]) :
    Calls Tryd.prog 138 #[.string s, .int .i64 10, .int .i64 32] w fun e w' => ∃ N, e = .returned (.tuple #[.int .u64 0, .iface 176 (.pointer (some ⟨N, 0, none⟩))]) ∧ w.heap.size ≤ N ∧ w'.heap[N]? = some (.cells #[.string ⟨#[80, 97, 114, 115, 101, 85, 105, 110, 116]⟩, .string s, .iface tp p] 191 (0, 0)) ∧ Below w.heap.size w w' := Any.strconv_ParseUint_10_at32_syntax_var Tryd.laysPu14 s hlim h tp p w hvar
open Go.RowKit in
theorem Tryd.strconv_ParseUint_10_at32_range_var (s : ByteArray) (hlim : s.size ≤ 281474976710656) (h : Lib.parseUintB 32 s.data.toList = .range) (tp : TypeId) (p : Value) (w : World) (hvar : w.var? Tryd.prog "strconv.ErrRange" = some #[.iface tp p]) :
    Calls Tryd.prog 138 #[.string s, .int .i64 10, .int .i64 32] w fun e w' => ∃ N, e = .returned (.tuple #[.int .u64 4294967295, .iface 176 (.pointer (some ⟨N, 0, none⟩))]) ∧ w.heap.size ≤ N ∧ w'.heap[N]? = some (.cells #[.string ⟨#[80, 97, 114, 115, 101, 85, 105, 110, 116]⟩, .string s, .iface tp p] 191 (0, 0)) ∧ Below w.heap.size w w' := Any.strconv_ParseUint_10_at32_range_var Tryd.laysPu14 s hlim h tp p w hvar
open Go.RowKit in
theorem Tryd.strconv_ParseUint_10_at16_syntax_var (s : ByteArray) (hlim : s.size ≤ 281474976710656) (h : Lib.parseUintB 16 s.data.toList = Lib.parseUintB 16 []) (tp : TypeId) (p : Value) (w : World) (hvar : w.var? Tryd.prog "strconv.ErrSyntax" = some #[.iface tp p]) :
    Calls Tryd.prog 138 #[.string s, .int .i64 10, .int .i64 16] w fun e w' => ∃ N, e = .returned (.tuple #[.int .u64 0, .iface 176 (.pointer (some ⟨N, 0, none⟩))]) ∧ w.heap.size ≤ N ∧ w'.heap[N]? = some (.cells #[.string ⟨#[80, 97, 114, 115, 101, 85, 105, 110, 116]⟩, .string s, .iface tp p] 191 (0, 0)) ∧ Below w.heap.size w w' := Any.strconv_ParseUint_10_at16_syntax_var Tryd.laysPu14 s hlim h tp p w hvar
open Go.RowKit in
theorem Tryd.strconv_ParseUint_10_at16_range_var (s : ByteArray) (hlim : s.size ≤ 281474976710656) (h : Lib.parseUintB 16 s.data.toList = .range) (tp : TypeId) (p : Value) (w : World) (hvar : w.var? Tryd.prog "strconv.ErrRange" = some #[.iface tp p]) :
    Calls Tryd.prog 138 #[.string s, .int .i64 10, .int .i64 16] w fun e w' => ∃ N, e = .returned (.tuple #[.int .u64 65535, .iface 176 (.pointer (some ⟨N, 0, none⟩))]) ∧ w.heap.size ≤ N ∧ w'.heap[N]? = some (.cells #[.string ⟨#[80, 97, 114, 115, 101, 85, 105, 110, 116]⟩, .string s, .iface tp p] 191 (0, 0)) ∧ Below w.heap.size w w' := Any.strconv_ParseUint_10_at16_range_var Tryd.laysPu14 s hlim h tp p w hvar
open Go.RowKit in
theorem Tryd.strconv_ParseUint_10_at8_syntax_var (s : ByteArray) (hlim : s.size ≤ 281474976710656) (h : Lib.parseUintB 8 s.data.toList = Lib.parseUintB 8 []) (tp : TypeId) (p : Value) (w : World) (hvar : w.var? Tryd.prog "strconv.ErrSyntax" = some #[.iface tp p]) :
    Calls Tryd.prog 138 #[.string s, .int .i64 10, .int .i64 8] w fun e w' => ∃ N, e = .returned (.tuple #[.int .u64 0, .iface 176 (.pointer (some ⟨N, 0, none⟩))]) ∧ w.heap.size ≤ N ∧ w'.heap[N]? = some (.cells #[.string ⟨#[80, 97, 114, 115, 101, 85, 105, 110, 116]⟩, .string s, .iface tp p] 191 (0, 0)) ∧ Below w.heap.size w w' := Any.strconv_ParseUint_10_at8_syntax_var Tryd.laysPu14 s hlim h tp p w hvar
open Go.RowKit in
theorem Tryd.strconv_ParseUint_10_at8_range_var (s : ByteArray) (hlim : s.size ≤ 281474976710656) (h : Lib.parseUintB 8 s.data.toList = .range) (tp : TypeId) (p : Value) (w : World) (hvar : w.var? Tryd.prog "strconv.ErrRange" = some #[.iface tp p]) :
    Calls Tryd.prog 138 #[.string s, .int .i64 10, .int .i64 8] w fun e w' => ∃ N, e = .returned (.tuple #[.int .u64 255, .iface 176 (.pointer (some ⟨N, 0, none⟩))]) ∧ w.heap.size ≤ N ∧ w'.heap[N]? = some (.cells #[.string ⟨#[80, 97, 114, 115, 101, 85, 105, 110, 116]⟩, .string s, .iface tp p] 191 (0, 0)) ∧ Below w.heap.size w w' := Any.strconv_ParseUint_10_at8_range_var Tryd.laysPu14 s hlim h tp p w hvar
def Tryd.lays315_ren : Go.Shelf.Ren := ⟨fun | 315 => 167 | n => n, fun | 9 => 9 | 40 => 151 | 4 => 4 | 3 => 3 | 0 => 0 | 21 => 21 | n => n, fun | n => n⟩
theorem Tryd.lays315 : Go.Proofs.Lays.n315 Tryd.prog Tryd.lays315_ren := {
  mixed := by kernel_rfl
  f315 := Tryd.func167.trans (congrArg some (by kernel_rfl))
  t0 := Tryd.underlying0
  a0 := Tryd.isAgg0
  z0 := Tryd.sizeOf0
  v0 := Tryd.zeroValue0
  t3 := Tryd.underlying3
  a3 := Tryd.isAgg3
  z3 := Tryd.sizeOf3
  v3 := Tryd.zeroValue3
  t4 := Tryd.underlying4
  a4 := Tryd.isAgg4
  z4 := Tryd.sizeOf4
  v4 := Tryd.zeroValue4
  t9 := Tryd.underlying9
  a9 := Tryd.isAgg9
  z9 := Tryd.sizeOf9
  v9 := Tryd.zeroValue9
  t21 := Tryd.underlying21
  a21 := Tryd.isAgg21
  z21 := Tryd.sizeOf21
  v21 := Tryd.zeroValue21
  t40 := Tryd.underlying151
  a40 := Tryd.isAgg151
  z40 := Tryd.sizeOf151
  v40 := Tryd.zeroValue151 }
open Go.RowKit Go.Lib in
theorem Tryd.strings_indexFunc (g : Nat) (lb : Array Value) (eg : ∀ args w, (callFunc g args).run Tryd.prog w = .ok (.enter g args) w) (p : Nat → Bool) (truth : Bool) (s : ByteArray) (w : World) (hp : PredAt Tryd.prog g lb encR p w) :
    Calls Tryd.prog 167 #[.string s, .func (.func g) #[] lb, .bool truth] w fun e w' => e = .returned (.int .i64 (Lib.idxFunc p truth s)) ∧ Below w.heap.size w w' := Any.strings_indexFunc Tryd.lays315 g lb eg p truth s w hp
def Tryd.laysGw15_ren : Go.Shelf.Ren := ⟨fun | 15 => 151 | 20 => 167 | n => n, fun | 9 => 9 | 23 => 151 | 3 => 3 | 4 => 4 | 0 => 0 | 21 => 21 | n => n, fun | n => n⟩
theorem Tryd.laysGw15 : Go.Proofs.LaysGw.n15 Tryd.prog Tryd.laysGw15_ren := {
  mixed := by kernel_rfl
  f15 := Tryd.func151.trans (congrArg some (by kernel_rfl))
  f20 := Tryd.func167.trans (congrArg some (by kernel_rfl))
  t0 := Tryd.underlying0
  a0 := Tryd.isAgg0
  z0 := Tryd.sizeOf0
  v0 := Tryd.zeroValue0
  i0 := by kernel_rfl
  t3 := Tryd.underlying3
  a3 := Tryd.isAgg3
  z3 := Tryd.sizeOf3
  v3 := Tryd.zeroValue3
  i3 := by kernel_rfl
  t4 := Tryd.underlying4
  a4 := Tryd.isAgg4
  z4 := Tryd.sizeOf4
  v4 := Tryd.zeroValue4
  i4 := by kernel_rfl
  t9 := Tryd.underlying9
  a9 := Tryd.isAgg9
  z9 := Tryd.sizeOf9
  v9 := Tryd.zeroValue9
  i9 := by kernel_rfl
  t21 := Tryd.underlying21
  a21 := Tryd.isAgg21
  z21 := Tryd.sizeOf21
  v21 := Tryd.zeroValue21
  i21 := by kernel_rfl
  t23 := Tryd.underlying151
  a23 := Tryd.isAgg151
  z23 := Tryd.sizeOf151
  v23 := Tryd.zeroValue151
  i23 := by kernel_rfl }
open Go.RowKit Go.Lib in
theorem Tryd.strings_IndexFunc (g : Nat) (lb : Array Value) (eg : ∀ args w, (callFunc g args).run Tryd.prog w = .ok (.enter g args) w) (p : Nat → Bool) (s : ByteArray) (w : World) (hp : PredAt Tryd.prog g lb encR p w) :
    Calls Tryd.prog 151 #[.string s, .func (.func g) #[] lb] w fun e w' => e = .returned (.int .i64 (Lib.idxFunc p true s)) ∧ Below w.heap.size w w' := Any.strings_IndexFunc Tryd.laysGw15 g lb eg p s w hp
open Go.RowKit Go.Lib in
theorem Tryd.strings_indexFunc_runes (g : Nat) (lb : Array Value) (eg : ∀ args w, (callFunc g args).run Tryd.prog w = .ok (.enter g args) w) (p : Nat → Bool) (truth : Bool) (s : ByteArray) (w : World) (hp : PredAtRunes Tryd.prog g lb p w) :
    Calls Tryd.prog 167 #[.string s, .func (.func g) #[] lb, .bool truth] w fun e w' => e = .returned (.int .i64 (Lib.idxFunc p truth s)) ∧ Below w.heap.size w w' := Any.strings_indexFunc_runes Tryd.lays315 g lb eg p truth s w hp
open Go.RowKit Go.Lib in
theorem Tryd.strings_IndexFunc_runes (g : Nat) (lb : Array Value) (eg : ∀ args w, (callFunc g args).run Tryd.prog w = .ok (.enter g args) w) (p : Nat → Bool) (s : ByteArray) (w : World) (hp : PredAtRunes Tryd.prog g lb p w) :
    Calls Tryd.prog 151 #[.string s, .func (.func g) #[] lb] w fun e w' => e = .returned (.int .i64 (Lib.idxFunc p true s)) ∧ Below w.heap.size w w' := Any.strings_IndexFunc_runes Tryd.laysGw15 g lb eg p s w hp
open Go.RowKit Go.Lib in
theorem Tryd.strings_indexFunc_grows (g : Nat) (lb : Array Value) (eg : ∀ args w, (callFunc g args).run Tryd.prog w = .ok (.enter g args) w) (p : Nat → Bool) (truth : Bool) (s : ByteArray) (w : World) (hp : PredGrows Tryd.prog g lb p w) :
    Calls Tryd.prog 167 #[.string s, .func (.func g) #[] lb, .bool truth] w fun e w' => e = .returned (.int .i64 (Lib.idxFunc p truth s)) ∧ Below w.heap.size w w' := Any.strings_indexFunc_grows Tryd.lays315 g lb eg p truth s w hp
open Go.RowKit Go.Lib in
theorem Tryd.strings_IndexFunc_grows (g : Nat) (lb : Array Value) (eg : ∀ args w, (callFunc g args).run Tryd.prog w = .ok (.enter g args) w) (p : Nat → Bool) (s : ByteArray) (w : World) (hp : PredGrows Tryd.prog g lb p w) :
    Calls Tryd.prog 151 #[.string s, .func (.func g) #[] lb] w fun e w' => e = .returned (.int .i64 (Lib.idxFunc p true s)) ∧ Below w.heap.size w w' := Any.strings_IndexFunc_grows Tryd.laysGw15 g lb eg p s w hp
end Go.Proofs
