/-
  DERIVED: THE SHELF's CONTRACTS AT THIS DUMP, IN PLAIN WORDS (tools/lay-plain.mjs out of 'TrydShelf.lean', which tools/lay-shelf.mjs wrote): THE SAME DECLARATIONS UNDER THE SAME NAMES: 'import', 'namespace', 'open', 'def', 'theorem' AND NOTHING ELSE: no command of the shelf's: FOR A HAND-IN. Each laying: the table of numbers ('.._ren') and one theorem, a field a fact of the dump's own or the kernel's comparison; each contract: ONE APPLICATION.
-/
import Derived.Shelf.Strconv.Itoa0
import Derived.Shelf.Strconv.Itoa1
import Derived.Shelf.LaysM
import Derived.Shelf.Strconv.Itoa2
import Derived.Shelf.Strconv.Itoa3
import Derived.Shelf.Strconv.Lower
import Derived.Shelf.Strconv.ParseUint10
import Derived.Shelf.Strconv.ParseUintEmpty
import Derived.Shelf.Strconv.ParseUint10b64
import Derived.Shelf.Strconv.ParseUint10b32
import Derived.Shelf.Strconv.ParseUint10b16
import Derived.Shelf.Strconv.ParseUint10b8
import Derived.Shelf.Strconv.ParseUint10At
import Derived.Ground.MpProg
import Derived.Shelf.Pu.ParseUintPublic10
import Derived.Shelf.Pu.ErrVarParseUint
import Derived.Shelf.GgClosure.StringsIndexFunc
import Derived.Ground.GgwProg
import Derived.Shelf.GgClosure.StringsIndexFuncTop
import Derived.Shelf.GgClosure.StringsRunes
import Derived.Shelf.Strings.FuncGrows
import Derived.Test.YtgenbmhmcnaiiaaDoorProg
namespace Go.Proofs
open Go.Shelf
def Tryd.lays283_ren : Go.Shelf.Ren := ⟨fun | 283 => 163 | n => n, fun | 3 => 3 | 9 => 9 | 4 => 4 | n => n, fun | n => n⟩
theorem Tryd.lays283 : Go.Proofs.Lays.n283 Tryd.prog Tryd.lays283_ren := {
  mixed := by kernel_rfl
  f283 := Tryd.func163.trans (congrArg some (by kernel_rfl))
  t3 := Tryd.underlying3
  a3 := Tryd.isAgg3
  z3 := Tryd.sizeOf3
  v3 := Tryd.zeroValue3
  t4 := Tryd.underlying4
  a4 := Tryd.isAgg4
  z4 := Tryd.sizeOf4
  v4 := Tryd.zeroValue4
  t9 := Tryd.underlying9
  a9 := Tryd.isAgg9
  z9 := Tryd.sizeOf9
  v9 := Tryd.zeroValue9 }
open Go.Lib in
/-- internal/strconv.small: "small returns the string for an i with 0 <= i < nSmalls.": i's decimal numeral. The world is as it was. (LAID: no walk: one application.) -/
theorem Tryd.internal_strconv_small (i : Nat) (h : i < 100) (w : World) :
    Calls Tryd.prog 163 #[.int .i64 i] w fun e w' => e = .returned (.string ⟨(Lib.decDigits i).toArray⟩) ∧ w' = w := Any.internal_strconv_small Tryd.lays283 i h w
def Tryd.laysM284_ren : Go.Shelf.Ren := ⟨fun | 284 => 164 | 129 => 177 | 317 => 176 | 318 => 178 | n => n, fun | 53 => 25 | 3 => 3 | 212 => 184 | 0 => 0 | 4 => 4 | 46 => 175 | 5 => 5 | 9 => 9 | n => n, fun | 17 => 9 | n => n⟩
theorem Tryd.laysM284 : Go.Proofs.LaysM.n284 Tryd.prog Tryd.laysM284_ren := {
  mixed := by kernel_rfl
  f129 := Tryd.func177.trans (congrArg some (by kernel_rfl))
  f284 := Tryd.func164.trans (congrArg some (by kernel_rfl))
  f317 := Tryd.func176.trans (congrArg some (by kernel_rfl))
  f318 := Tryd.func178.trans (congrArg some (by kernel_rfl))
  t0 := Tryd.underlying0
  a0 := Tryd.isAgg0
  z0 := Tryd.sizeOf0
  v0 := Tryd.zeroValue0
  t3 := Tryd.underlying3
  a3 := Tryd.isAgg3
  z3 := Tryd.sizeOf3
  v3 := Tryd.zeroValue3
  t4 := Tryd.underlying4
  a4 := Tryd.isAgg4
  z4 := Tryd.sizeOf4
  v4 := Tryd.zeroValue4
  t5 := Tryd.underlying5
  a5 := Tryd.isAgg5
  z5 := Tryd.sizeOf5
  v5 := Tryd.zeroValue5
  t9 := Tryd.underlying9
  a9 := Tryd.isAgg9
  z9 := Tryd.sizeOf9
  v9 := Tryd.zeroValue9
  t46 := Tryd.underlying175
  a46 := Tryd.isAgg175
  z46 := Tryd.sizeOf175
  v46 := Tryd.zeroValue175
  t53 := Tryd.underlying25
  a53 := Tryd.isAgg25
  z53 := Tryd.sizeOf25
  v53 := Tryd.zeroValue25
  t212 := Tryd.underlying184
  a212 := Tryd.isAgg184
  z212 := Tryd.sizeOf184
  v212 := Tryd.zeroValue184
  g17 := by kernel_rfl
  i0 := by kernel_rfl
  i3 := by kernel_rfl
  i4 := by kernel_rfl
  i5 := by kernel_rfl
  i9 := by kernel_rfl
  i46 := by kernel_rfl
  i53 := by kernel_rfl
  i212 := by kernel_rfl
  m17 := by kernel_rfl }
open Go.Lib in
/-- internal/strconv.numDigits, at a d that is not 0: THE NUMBER OF d's DECIMAL DIGITS. The world is as it was. (LAID: no walk: one application.) -/
theorem Tryd.internal_strconv_numDigits (u : Nat) (h1 : 1 ≤ u) (h2 : u < 18446744073709551616) (w : World) (htab : Lib.TabIs Tryd.prog w "internal/strconv.uint64pow10" .u64 Lib.pow10Tab) :
    Calls Tryd.prog 164 #[.int .u64 u] w fun e w' => e = .returned (.int .i64 (Lib.nDigits u)) ∧ w' = w := Any.internal_strconv_numDigits Tryd.laysM284 u h1 h2 w htab
def Tryd.lays285_ren : Go.Shelf.Ren := ⟨fun | 285 => 165 | n => n, fun | 37 => 29 | 53 => 25 | 3 => 3 | 4 => 4 | 51 => 185 | 9 => 9 | 5 => 5 | 0 => 0 | n => n, fun | n => n⟩
theorem Tryd.lays285 : Go.Proofs.Lays.n285 Tryd.prog Tryd.lays285_ren := {
  mixed := by kernel_rfl
  f285 := Tryd.func165.trans (congrArg some (by kernel_rfl))
  t0 := Tryd.underlying0
  a0 := Tryd.isAgg0
  z0 := Tryd.sizeOf0
  v0 := Tryd.zeroValue0
  t3 := Tryd.underlying3
  a3 := Tryd.isAgg3
  z3 := Tryd.sizeOf3
  v3 := Tryd.zeroValue3
  t4 := Tryd.underlying4
  a4 := Tryd.isAgg4
  z4 := Tryd.sizeOf4
  v4 := Tryd.zeroValue4
  t5 := Tryd.underlying5
  a5 := Tryd.isAgg5
  z5 := Tryd.sizeOf5
  v5 := Tryd.zeroValue5
  t9 := Tryd.underlying9
  a9 := Tryd.isAgg9
  z9 := Tryd.sizeOf9
  v9 := Tryd.zeroValue9
  t37 := Tryd.underlying29
  a37 := Tryd.isAgg29
  z37 := Tryd.sizeOf29
  v37 := Tryd.zeroValue29
  t51 := Tryd.underlying185
  a51 := Tryd.isAgg185
  z51 := Tryd.sizeOf185
  v51 := Tryd.zeroValue185
  t53 := Tryd.underlying25
  a53 := Tryd.isAgg25
  z53 := Tryd.sizeOf25
  v53 := Tryd.zeroValue25 }
open Go.RowKit Go.Sort Go.Lib in
/-- internal/strconv.formatBase10: "formatBase10 formats the decimal representation of u into a. The caller is responsible for ensuring that a is big enough to hold u. If a is too big, leading zeros will be filled in as needed.": THE ROW HOLDS u's DIGITS ('FmtInv .. 0 ..': every place t holds 'dg u (len - 1 - t)'); all else is as it was but for the count of draws. (LAID: no walk: one application.) -/
theorem Tryd.internal_strconv_formatBase10 (blk off cap : Nat) (u : Nat) (d : Array UInt8) (w : World) (hH : Holds (fun (b : UInt8) => Value.int .u8 (b.toNat : Int)) w blk off d) (hu : u < 10 ^ d.size) (hu64 : u < 18446744073709551616) (hsz : d.size < 4611686018427387904) :
    Calls Tryd.prog 165 #[.slice (some ⟨blk, off, none⟩) d.size cap, .int .u64 u] w fun e w' =>
      e = .returned (.tuple #[]) ∧ ∃ (n v' : Nat) (dk : Array UInt8), w' = (putRow (fun (b : UInt8) => Value.int .u8 (b.toNat : Int)) w blk off dk).drewN n ∧ FmtInv d.size u 0 v' dk := Any.internal_strconv_formatBase10 Tryd.lays285 blk off cap u d w hH hu hu64 hsz
def Tryd.laysPu14_ren : Go.Shelf.Ren := ⟨fun | 14 => 138 | 16 => 154 | 17 => 155 | 19 => 169 | 20 => 170 | 21 => 171 | 22 => 172 | 23 => 173 | 24 => 174 | 25 => 181 | 27 => 182 | 26 => 156 | 28 => 185 | 29 => 186 | 30 => 163 | 31 => 164 | 32 => 165 | 33 => 166 | 35 => 177 | 34 => 176 | 36 => 178 | 37 => 179 | 38 => 180 | 39 => 183 | 40 => 184 | n => n, fun | 9 => 9 | 3 => 3 | 22 => 25 | 24 => 79 | 25 => 132 | 4 => 4 | 34 => 173 | 5 => 5 | 36 => 175 | 37 => 29 | 0 => 0 | 39 => 176 | 21 => 21 | 44 => 191 | 47 => 193 | 50 => 181 | 48 => 179 | 2 => 2 | 52 => 166 | 55 => 169 | 59 => 184 | 60 => 185 | 20 => 20 | 61 => 186 | 65 => 194 | 66 => 195 | 67 => 86 | n => n, fun | 0 => 10 | 1 => 11 | 2 => 9 | 3 => 12 | 4 => 13 | n => n⟩
theorem Tryd.laysPu14 : Go.Proofs.LaysPu.n14 Tryd.prog Tryd.laysPu14_ren := {
  mixed := by kernel_rfl
  f14 := Tryd.func138.trans (congrArg some (by kernel_rfl))
  f16 := Tryd.func154.trans (congrArg some (by kernel_rfl))
  f17 := Tryd.func155.trans (congrArg some (by kernel_rfl))
  f19 := Tryd.func169.trans (congrArg some (by kernel_rfl))
  f20 := Tryd.func170.trans (congrArg some (by kernel_rfl))
  f21 := Tryd.func171.trans (congrArg some (by kernel_rfl))
  f22 := Tryd.func172.trans (congrArg some (by kernel_rfl))
  f23 := Tryd.func173.trans (congrArg some (by kernel_rfl))
  f24 := Tryd.func174.trans (congrArg some (by kernel_rfl))
  f25 := Tryd.func181.trans (congrArg some (by kernel_rfl))
  f26 := Tryd.func156.trans (congrArg some (by kernel_rfl))
  f27 := Tryd.func182.trans (congrArg some (by kernel_rfl))
  f28 := Tryd.func185.trans (congrArg some (by kernel_rfl))
  f29 := Tryd.func186.trans (congrArg some (by kernel_rfl))
  f30 := Tryd.func163.trans (congrArg some (by kernel_rfl))
  f31 := Tryd.func164.trans (congrArg some (by kernel_rfl))
  f32 := Tryd.func165.trans (congrArg some (by kernel_rfl))
  f33 := Tryd.func166.trans (congrArg some (by kernel_rfl))
  f34 := Tryd.func176.trans (congrArg some (by kernel_rfl))
  f35 := Tryd.func177.trans (congrArg some (by kernel_rfl))
  f36 := Tryd.func178.trans (congrArg some (by kernel_rfl))
  f37 := Tryd.func179.trans (congrArg some (by kernel_rfl))
  f38 := Tryd.func180.trans (congrArg some (by kernel_rfl))
  f39 := Tryd.func183.trans (congrArg some (by kernel_rfl))
  f40 := Tryd.func184.trans (congrArg some (by kernel_rfl))
  t0 := Tryd.underlying0
  a0 := Tryd.isAgg0
  z0 := Tryd.sizeOf0
  v0 := Tryd.zeroValue0
  i0 := by kernel_rfl
  t2 := Tryd.underlying2
  a2 := Tryd.isAgg2
  z2 := Tryd.sizeOf2
  v2 := Tryd.zeroValue2
  i2 := by kernel_rfl
  t3 := Tryd.underlying3
  a3 := Tryd.isAgg3
  z3 := Tryd.sizeOf3
  v3 := Tryd.zeroValue3
  i3 := by kernel_rfl
  t4 := Tryd.underlying4
  a4 := Tryd.isAgg4
  z4 := Tryd.sizeOf4
  v4 := Tryd.zeroValue4
  i4 := by kernel_rfl
  t5 := Tryd.underlying5
  a5 := Tryd.isAgg5
  z5 := Tryd.sizeOf5
  v5 := Tryd.zeroValue5
  i5 := by kernel_rfl
  t9 := Tryd.underlying9
  a9 := Tryd.isAgg9
  z9 := Tryd.sizeOf9
  v9 := Tryd.zeroValue9
  i9 := by kernel_rfl
  t20 := Tryd.underlying20
  a20 := Tryd.isAgg20
  z20 := Tryd.sizeOf20
  v20 := Tryd.zeroValue20
  i20 := by kernel_rfl
  t21 := Tryd.underlying21
  a21 := Tryd.isAgg21
  z21 := Tryd.sizeOf21
  v21 := Tryd.zeroValue21
  i21 := by kernel_rfl
  t22 := Tryd.underlying25
  a22 := Tryd.isAgg25
  z22 := Tryd.sizeOf25
  v22 := Tryd.zeroValue25
  i22 := by kernel_rfl
  t24 := Tryd.underlying79
  a24 := Tryd.isAgg79
  z24 := Tryd.sizeOf79
  v24 := Tryd.zeroValue79
  i24 := by kernel_rfl
  t25 := Tryd.underlying132
  a25 := Tryd.isAgg132
  z25 := Tryd.sizeOf132
  v25 := Tryd.zeroValue132
  i25 := by kernel_rfl
  t34 := Tryd.underlying173
  a34 := Tryd.isAgg173
  z34 := Tryd.sizeOf173
  v34 := Tryd.zeroValue173
  i34 := by kernel_rfl
  c34 := by kernel_rfl
  t36 := Tryd.underlying175
  a36 := Tryd.isAgg175
  z36 := Tryd.sizeOf175
  v36 := Tryd.zeroValue175
  i36 := by kernel_rfl
  t37 := Tryd.underlying29
  a37 := Tryd.isAgg29
  z37 := Tryd.sizeOf29
  v37 := Tryd.zeroValue29
  i37 := by kernel_rfl
  t39 := Tryd.underlying176
  a39 := Tryd.isAgg176
  z39 := Tryd.sizeOf176
  v39 := Tryd.zeroValue176
  i39 := by kernel_rfl
  t44 := Tryd.underlying191
  a44 := Tryd.isAgg191
  z44 := Tryd.sizeOf191
  v44 := Tryd.zeroValue191
  i44 := by kernel_rfl
  t47 := Tryd.underlying193
  a47 := Tryd.isAgg193
  z47 := Tryd.sizeOf193
  v47 := Tryd.zeroValue193
  i47 := by kernel_rfl
  t48 := Tryd.underlying179
  a48 := Tryd.isAgg179
  z48 := Tryd.sizeOf179
  v48 := Tryd.zeroValue179
  i48 := by kernel_rfl
  t50 := Tryd.underlying181
  a50 := Tryd.isAgg181
  z50 := Tryd.sizeOf181
  v50 := Tryd.zeroValue181
  i50 := by kernel_rfl
  t52 := Tryd.underlying166
  a52 := Tryd.isAgg166
  z52 := Tryd.sizeOf166
  v52 := Tryd.zeroValue166
  i52 := by kernel_rfl
  t55 := Tryd.underlying169
  a55 := Tryd.isAgg169
  z55 := Tryd.sizeOf169
  v55 := Tryd.zeroValue169
  i55 := by kernel_rfl
  t59 := Tryd.underlying184
  a59 := Tryd.isAgg184
  z59 := Tryd.sizeOf184
  v59 := Tryd.zeroValue184
  i59 := by kernel_rfl
  t60 := Tryd.underlying185
  a60 := Tryd.isAgg185
  z60 := Tryd.sizeOf185
  v60 := Tryd.zeroValue185
  i60 := by kernel_rfl
  t61 := Tryd.underlying186
  a61 := Tryd.isAgg186
  z61 := Tryd.sizeOf186
  t65 := Tryd.underlying194
  a65 := Tryd.isAgg194
  z65 := Tryd.sizeOf194
  v65 := Tryd.zeroValue194
  i65 := by kernel_rfl
  t66 := Tryd.underlying195
  a66 := Tryd.isAgg195
  z66 := Tryd.sizeOf195
  v66 := Tryd.zeroValue195
  i66 := by kernel_rfl
  t67 := Tryd.underlying86
  a67 := Tryd.isAgg86
  z67 := Tryd.sizeOf86
  v67 := Tryd.zeroValue86
  i67 := by kernel_rfl
  g0 := by kernel_rfl
  m0 := by kernel_rfl
  g1 := by kernel_rfl
  m1 := by kernel_rfl
  g2 := by kernel_rfl
  m2 := by kernel_rfl
  g3 := by kernel_rfl
  m3 := by kernel_rfl
  g4 := by kernel_rfl
  m4 := by kernel_rfl }
open Go.RowKit in
/-- strconv.ParseUint(s, 10, 64), AT EVERY STRING THAT SPELLS A uint64 ('Lib.parseUintB 64 s.data.toList = .ok u'): u, AND NO ERROR. (LAID: no walk: one application.) -/
theorem Tryd.strconv_ParseUint_10_at64_ok (s : ByteArray) (hmax : s.size ≤ 9223372036854775806) (u : Nat) (h : Lib.parseUintB 64 s.data.toList = .ok u) (w : World) :
    Calls Tryd.prog 138 #[.string s, .int .i64 10, .int .i64 64] w fun e w' => e = .returned (.tuple #[.int .u64 u, .nilIface]) ∧ (w' = w ∨ w' = Lib.bytesWorld w 5 s) := Any.strconv_ParseUint_10_at64_ok Tryd.laysPu14 s hmax u h w
open Go.RowKit in
/-- strconv.ParseUint(s, 10, 64), AT EVERY STRING THAT IS NO ROW OF DECIMAL DIGITS (a sign is a fault): 0, AND AN ERROR THAT IS NOT nil: a *NumError in a new block N: {Func: "ParseUint", Num: s's bytes, Err: what the variable ErrSyntax holds}. Of what was there nothing has turned. (LAID: no walk: one application.) -/
theorem Tryd.strconv_ParseUint_10_at64_syntax (s : ByteArray) (hlim : s.size ≤ 281474976710656) (h : Lib.parseUintB 64 s.data.toList = Lib.parseUintB 64 []) (ev : Value) (w : World) (hv : w.cell? ⟨10, 0, none⟩ = some ev) (hev : ev = .nilIface ∨ ∃ te pe, ev = .iface te pe) :
    Calls Tryd.prog 138 #[.string s, .int .i64 10, .int .i64 64] w fun e w' => ∃ N, e = .returned (.tuple #[.int .u64 0, .iface 176 (.pointer (some ⟨N, 0, none⟩))]) ∧ w.heap.size ≤ N ∧ w'.heap[N]? = some (.cells #[.string ⟨#[80, 97, 114, 115, 101, 85, 105, 110, 116]⟩, .string s, ev] 191 (0, 0)) ∧ Below w.heap.size w w' := Any.strconv_ParseUint_10_at64_syntax Tryd.laysPu14 s hlim h ev w hv hev
open Go.RowKit in
/-- strconv.ParseUint(s, 10, 64), AT EVERY NUMERAL THAT NO uint64 HOLDS: THE GREATEST uint64, AND AN ERROR THAT IS NOT nil: a *NumError in a new block N: {Func: "ParseUint", Num: s's bytes, Err: what the variable ErrRange holds}. Of what was there nothing has turned. (LAID: no walk: one application.) -/
theorem Tryd.strconv_ParseUint_10_at64_range (s : ByteArray) (hlim : s.size ≤ 281474976710656) (h : Lib.parseUintB 64 s.data.toList = .range) (ev : Value) (w : World) (hv : w.cell? ⟨11, 0, none⟩ = some ev) (hev : ev = .nilIface ∨ ∃ te pe, ev = .iface te pe) :
    Calls Tryd.prog 138 #[.string s, .int .i64 10, .int .i64 64] w fun e w' => ∃ N, e = .returned (.tuple #[.int .u64 18446744073709551615, .iface 176 (.pointer (some ⟨N, 0, none⟩))]) ∧ w.heap.size ≤ N ∧ w'.heap[N]? = some (.cells #[.string ⟨#[80, 97, 114, 115, 101, 85, 105, 110, 116]⟩, .string s, ev] 191 (0, 0)) ∧ Below w.heap.size w w' := Any.strconv_ParseUint_10_at64_range Tryd.laysPu14 s hlim h ev w hv hev
end Go.Proofs
