/-
  DERIVED: THE SHELF's CONTRACTS AT THIS DUMP, IN PLAIN WORDS (tools/lay-plain.mjs out of 'TrydShelf.lean', which tools/lay-shelf.mjs wrote): THE SAME DECLARATIONS UNDER THE SAME NAMES: 'import', 'namespace', 'open', 'def', 'theorem' AND NOTHING ELSE: no command of the shelf's: FOR A HAND-IN. Each laying: the table of numbers ('.._ren') and one theorem, a field a fact of the dump's own or the kernel's comparison; each contract: ONE APPLICATION.
-/
import Derived.Shelf.Strconv.Itoa0
import Derived.Shelf.Strconv.Itoa1
import Derived.Shelf.LaysM
import Derived.Shelf.Strconv.Itoa2
import Derived.Shelf.Strconv.Itoa3
import Derived.Shelf.Strconv.Lower
import Derived.Shelf.Strconv.ParseUint10
import Derived.Shelf.Strconv.ParseUintEmpty
import Derived.Shelf.Strconv.ParseUint10b64
import Derived.Shelf.Strconv.ParseUint10b32
import Derived.Shelf.Strconv.ParseUint10b16
import Derived.Shelf.Strconv.ParseUint10b8
import Derived.Shelf.Strconv.ParseUint10At
import Derived.Ground.MpProg
import Derived.Shelf.Pu.ParseUintPublic10
import Derived.Shelf.Pu.ErrVarParseUint
import Derived.Shelf.GgClosure.StringsIndexFunc
import Derived.Ground.GgwProg
import Derived.Shelf.GgClosure.StringsIndexFuncTop
import Derived.Shelf.GgClosure.StringsRunes
import Derived.Shelf.Strings.FuncGrows
import Derived.Test.YtgenbmhmcnaiiaaDoorProg
namespace Go.Proofs
open Go.Shelf
def Tryd.laysPu14_ren : Go.Shelf.Ren := ⟨fun | 14 => 138 | 16 => 154 | 17 => 155 | 19 => 169 | 20 => 170 | 21 => 171 | 22 => 172 | 23 => 173 | 24 => 174 | 25 => 181 | 27 => 182 | 26 => 156 | 28 => 185 | 29 => 186 | 30 => 163 | 31 => 164 | 32 => 165 | 33 => 166 | 35 => 177 | 34 => 176 | 36 => 178 | 37 => 179 | 38 => 180 | 39 => 183 | 40 => 184 | n => n, fun | 9 => 9 | 3 => 3 | 22 => 25 | 24 => 79 | 25 => 132 | 4 => 4 | 34 => 173 | 5 => 5 | 36 => 175 | 37 => 29 | 0 => 0 | 39 => 176 | 21 => 21 | 44 => 191 | 47 => 193 | 50 => 181 | 48 => 179 | 2 => 2 | 52 => 166 | 55 => 169 | 59 => 184 | 60 => 185 | 20 => 20 | 61 => 186 | 65 => 194 | 66 => 195 | 67 => 86 | n => n, fun | 0 => 10 | 1 => 11 | 2 => 9 | 3 => 12 | 4 => 13 | n => n⟩
theorem Tryd.laysPu14 : Go.Proofs.LaysPu.n14 Tryd.prog Tryd.laysPu14_ren := {
  mixed := by kernel_rfl
  f14 := Tryd.func138.trans (congrArg some (by kernel_rfl))
  f16 := Tryd.func154.trans (congrArg some (by kernel_rfl))
  f17 := Tryd.func155.trans (congrArg some (by kernel_rfl))
  f19 := Tryd.func169.trans (congrArg some (by kernel_rfl))
  f20 := Tryd.func170.trans (congrArg some (by kernel_rfl))
  f21 := Tryd.func171.trans (congrArg some (by kernel_rfl))
  f22 := Tryd.func172.trans (congrArg some (by kernel_rfl))
  f23 := Tryd.func173.trans (congrArg some (by kernel_rfl))
  f24 := Tryd.func174.trans (congrArg some (by kernel_rfl))
  f25 := Tryd.func181.trans (congrArg some (by kernel_rfl))
  f26 := Tryd.func156.trans (congrArg some (by kernel_rfl))
  f27 := Tryd.func182.trans (congrArg some (by kernel_rfl))
  f28 := Tryd.func185.trans (congrArg some (by kernel_rfl))
  f29 := Tryd.func186.trans (congrArg some (by kernel_rfl))
  f30 := Tryd.func163.trans (congrArg some (by kernel_rfl))
  f31 := Tryd.func164.trans (congrArg some (by kernel_rfl))
  f32 := Tryd.func165.trans (congrArg some (by kernel_rfl))
  f33 := Tryd.func166.trans (congrArg some (by kernel_rfl))
  f34 := Tryd.func176.trans (congrArg some (by kernel_rfl))
  f35 := Tryd.func177.trans (congrArg some (by kernel_rfl))
  f36 := Tryd.func178.trans (congrArg some (by kernel_rfl))
  f37 := Tryd.func179.trans (congrArg some (by kernel_rfl))
  f38 := Tryd.func180.trans (congrArg some (by kernel_rfl))
  f39 := Tryd.func183.trans (congrArg some (by kernel_rfl))
  f40 := Tryd.func184.trans (congrArg some (by kernel_rfl))
  t0 := Tryd.underlying0
  a0 := Tryd.isAgg0
  z0 := Tryd.sizeOf0
  v0 := Tryd.zeroValue0
  i0 := by kernel_rfl
  t2 := Tryd.underlying2
  a2 := Tryd.isAgg2
  z2 := Tryd.sizeOf2
  v2 := Tryd.zeroValue2
  i2 := by kernel_rfl
  t3 := Tryd.underlying3
  a3 := Tryd.isAgg3
  z3 := Tryd.sizeOf3
  v3 := Tryd.zeroValue3
  i3 := by kernel_rfl
  t4 := Tryd.underlying4
  a4 := Tryd.isAgg4
  z4 := Tryd.sizeOf4
  v4 := Tryd.zeroValue4
  i4 := by kernel_rfl
  t5 := Tryd.underlying5
  a5 := Tryd.isAgg5
  z5 := Tryd.sizeOf5
  v5 := Tryd.zeroValue5
  i5 := by kernel_rfl
  t9 := Tryd.underlying9
  a9 := Tryd.isAgg9
  z9 := Tryd.sizeOf9
  v9 := Tryd.zeroValue9
  i9 := by kernel_rfl
  t20 := Tryd.underlying20
  a20 := Tryd.isAgg20
  z20 := Tryd.sizeOf20
  v20 := Tryd.zeroValue20
  i20 := by kernel_rfl
  t21 := Tryd.underlying21
  a21 := Tryd.isAgg21
  z21 := Tryd.sizeOf21
  v21 := Tryd.zeroValue21
  i21 := by kernel_rfl
  t22 := Tryd.underlying25
  a22 := Tryd.isAgg25
  z22 := Tryd.sizeOf25
  v22 := Tryd.zeroValue25
  i22 := by kernel_rfl
  t24 := Tryd.underlying79
  a24 := Tryd.isAgg79
  z24 := Tryd.sizeOf79
  v24 := Tryd.zeroValue79
  i24 := by kernel_rfl
  t25 := Tryd.underlying132
  a25 := Tryd.isAgg132
  z25 := Tryd.sizeOf132
  v25 := Tryd.zeroValue132
  i25 := by kernel_rfl
  t34 := Tryd.underlying173
  a34 := Tryd.isAgg173
  z34 := Tryd.sizeOf173
  v34 := Tryd.zeroValue173
  i34 := by kernel_rfl
  c34 := by kernel_rfl
  t36 := Tryd.underlying175
  a36 := Tryd.isAgg175
  z36 := Tryd.sizeOf175
  v36 := Tryd.zeroValue175
  i36 := by kernel_rfl
  t37 := Tryd.underlying29
  a37 := Tryd.isAgg29
  z37 := Tryd.sizeOf29
  v37 := Tryd.zeroValue29
  i37 := by kernel_rfl
  t39 := Tryd.underlying176
  a39 := Tryd.isAgg176
  z39 := Tryd.sizeOf176
  v39 := Tryd.zeroValue176
  i39 := by kernel_rfl
  t44 := Tryd.underlying191
  a44 := Tryd.isAgg191
  z44 := Tryd.sizeOf191
  v44 := Tryd.zeroValue191
  i44 := by kernel_rfl
  t47 := Tryd.underlying193
  a47 := Tryd.isAgg193
  z47 := Tryd.sizeOf193
  v47 := Tryd.zeroValue193
  i47 := by kernel_rfl
  t48 := Tryd.underlying179
  a48 := Tryd.isAgg179
  z48 := Tryd.sizeOf179
  v48 := Tryd.zeroValue179
  i48 := by kernel_rfl
  t50 := Tryd.underlying181
  a50 := Tryd.isAgg181
  z50 := Tryd.sizeOf181
  v50 := Tryd.zeroValue181
  i50 := by kernel_rfl
  t52 := Tryd.underlying166
  a52 := Tryd.isAgg166
  z52 := Tryd.sizeOf166
  v52 := Tryd.zeroValue166
  i52 := by kernel_rfl
  t55 := Tryd.underlying169
  a55 := Tryd.isAgg169
  z55 := Tryd.sizeOf169
  v55 := Tryd.zeroValue169
  i55 := by kernel_rfl
  t59 := Tryd.underlying184
  a59 := Tryd.isAgg184
  z59 := Tryd.sizeOf184
  v59 := Tryd.zeroValue184
  i59 := by kernel_rfl
  t60 := Tryd.underlying185
  a60 := Tryd.isAgg185
  z60 := Tryd.sizeOf185
  v60 := Tryd.zeroValue185
  i60 := by kernel_rfl
  t61 := Tryd.underlying186
  a61 := Tryd.isAgg186
  z61 := Tryd.sizeOf186
  t65 := Tryd.underlying194
  a65 := Tryd.isAgg194
  z65 := Tryd.sizeOf194
  v65 := Tryd.zeroValue194
  i65 := by kernel_rfl
  t66 := Tryd.underlying195
  a66 := Tryd.isAgg195
  z66 := Tryd.sizeOf195
  v66 := Tryd.zeroValue195
  i66 := by kernel_rfl
  t67 := Tryd.underlying86
  a67 := Tryd.isAgg86
  z67 := Tryd.sizeOf86
  v67 := Tryd.zeroValue86
  i67 := by kernel_rfl
  g0 := by kernel_rfl
  m0 := by kernel_rfl
  g1 := by kernel_rfl
  m1 := by kernel_rfl
  g2 := by kernel_rfl
  m2 := by kernel_rfl
  g3 := by kernel_rfl
  m3 := by kernel_rfl
  g4 := by kernel_rfl
  m4 := by kernel_rfl }
open Go.RowKit in
/-- strconv.ParseUint(s, 10, 64), AT EVERY STRING THAT SPELLS A uint64 ('Lib.parseUintB 64 s.data.toList = .ok u'): u, AND NO ERROR. (LAID: no walk: one application.) -/
theorem Tryd.strconv_ParseUint_10_at64_ok (s : ByteArray) (hmax : s.size ≤ 9223372036854775806) (u : Nat) (h : Lib.parseUintB 64 s.data.toList = .ok u) (w : World) :
    Calls Tryd.prog 138 #[.string s, .int .i64 10, .int .i64 64] w fun e w' => e = .returned (.tuple #[.int .u64 u, .nilIface]) ∧ (w' = w ∨ w' = Lib.bytesWorld w 5 s) := Any.strconv_ParseUint_10_at64_ok Tryd.laysPu14 s hmax u h w
def Tryd.laysGw15_ren : Go.Shelf.Ren := ⟨fun | 15 => 151 | 20 => 167 | n => n, fun | 9 => 9 | 23 => 151 | 3 => 3 | 4 => 4 | 0 => 0 | 21 => 21 | n => n, fun | n => n⟩
theorem Tryd.laysGw15 : Go.Proofs.LaysGw.n15 Tryd.prog Tryd.laysGw15_ren := {
  mixed := by kernel_rfl
  f15 := Tryd.func151.trans (congrArg some (by kernel_rfl))
  f20 := Tryd.func167.trans (congrArg some (by kernel_rfl))
  t0 := Tryd.underlying0
  a0 := Tryd.isAgg0
  z0 := Tryd.sizeOf0
  v0 := Tryd.zeroValue0
  i0 := by kernel_rfl
  t3 := Tryd.underlying3
  a3 := Tryd.isAgg3
  z3 := Tryd.sizeOf3
  v3 := Tryd.zeroValue3
  i3 := by kernel_rfl
  t4 := Tryd.underlying4
  a4 := Tryd.isAgg4
  z4 := Tryd.sizeOf4
  v4 := Tryd.zeroValue4
  i4 := by kernel_rfl
  t9 := Tryd.underlying9
  a9 := Tryd.isAgg9
  z9 := Tryd.sizeOf9
  v9 := Tryd.zeroValue9
  i9 := by kernel_rfl
  t21 := Tryd.underlying21
  a21 := Tryd.isAgg21
  z21 := Tryd.sizeOf21
  v21 := Tryd.zeroValue21
  i21 := by kernel_rfl
  t23 := Tryd.underlying151
  a23 := Tryd.isAgg151
  z23 := Tryd.sizeOf151
  v23 := Tryd.zeroValue151
  i23 := by kernel_rfl }
open Go.RowKit Go.Lib in
theorem Tryd.strings_IndexFunc_grows (g : Nat) (lb : Array Value) (eg : ∀ args w, (callFunc g args).run Tryd.prog w = .ok (.enter g args) w) (p : Nat → Bool) (s : ByteArray) (w : World) (hp : PredGrows Tryd.prog g lb p w) :
    Calls Tryd.prog 151 #[.string s, .func (.func g) #[] lb] w fun e w' => e = .returned (.int .i64 (Lib.idxFunc p true s)) ∧ Below w.heap.size w w' := Any.strings_IndexFunc_grows Tryd.laysGw15 g lb eg p s w hp
end Go.Proofs
