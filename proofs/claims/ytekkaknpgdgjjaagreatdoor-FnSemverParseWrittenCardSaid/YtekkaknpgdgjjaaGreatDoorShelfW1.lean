/-
  DERIVED: THE SHELF's CONTRACTS AT THIS DUMP, IN PLAIN WORDS (tools/lay-plain.mjs out of 'TryzShelf.lean', which tools/lay-shelf.mjs wrote): THE SAME DECLARATIONS UNDER THE SAME NAMES: 'import', 'namespace', 'open', 'def', 'theorem' AND NOTHING ELSE: no command of the shelf's: FOR A HAND-IN. Each laying: the table of numbers ('.._ren') and one theorem, a field a fact of the dump's own or the kernel's comparison; each contract: ONE APPLICATION.
-/
import Derived.Shelf.Small.Utf8
import Derived.Shelf.Strconv.Itoa0
import Derived.Shelf.Strconv.Itoa1
import Derived.Shelf.LaysM
import Derived.Shelf.Strconv.Itoa2
import Derived.Shelf.Strconv.Itoa3
import Derived.Shelf.Strconv.Lower
import Derived.Shelf.Strconv.ParseUint10
import Derived.Shelf.Strconv.ParseUintEmpty
import Derived.Shelf.Strconv.ParseUint10b64
import Derived.Shelf.Strconv.ParseUint10b32
import Derived.Shelf.Strconv.ParseUint10b16
import Derived.Shelf.Strconv.ParseUint10b8
import Derived.Shelf.Strconv.ParseUint10At
import Derived.Ground.MpProg
import Derived.Shelf.Pu.ParseUintPublic10
import Derived.Shelf.Pu.ErrVarParseUint
import Derived.Shelf.GgClosure.StringsIndexFunc
import Derived.Ground.GgwProg
import Derived.Shelf.GgClosure.StringsIndexFuncTop
import Derived.Shelf.GgClosure.StringsRunes
import Derived.Shelf.Strings.Prefix
import Derived.Shelf.Unicode.Decode
import Derived.Shelf.Unicode.DecodeSlow
import Derived.Shelf.Unicode.DecodeAny
import Derived.Shelf.Unicode.DecodeLast
import Derived.Shelf.Strings.FuncGrows
import Derived.Test.YtekkaknpgdgjjaaGreatDoorProg
namespace Go.Proofs
open Go.Shelf
def Tryz.laysPu14_ren : Go.Shelf.Ren := ⟨fun | 14 => 45 | 16 => 58 | 17 => 59 | 19 => 71 | 20 => 72 | 21 => 73 | 22 => 74 | 23 => 75 | 24 => 76 | 25 => 92 | 27 => 93 | 26 => 46 | 28 => 104 | 29 => 107 | 30 => 63 | 31 => 64 | 32 => 65 | 33 => 66 | 35 => 83 | 34 => 82 | 36 => 84 | 37 => 85 | 38 => 86 | 39 => 96 | 40 => 97 | n => n, fun | 9 => 9 | 3 => 3 | 22 => 22 | 24 => 51 | 25 => 83 | 4 => 4 | 34 => 126 | 5 => 5 | 36 => 72 | 37 => 47 | 0 => 0 | 39 => 128 | 21 => 21 | 44 => 161 | 47 => 175 | 50 => 110 | 48 => 108 | 2 => 2 | 52 => 114 | 55 => 117 | 59 => 136 | 60 => 99 | 20 => 20 | 61 => 137 | 65 => 176 | 66 => 177 | 67 => 54 | n => n, fun | 0 => 8 | 1 => 9 | 2 => 7 | 3 => 10 | 4 => 11 | n => n⟩
theorem Tryz.laysPu14 : Go.Proofs.LaysPu.n14 Tryz.prog Tryz.laysPu14_ren := {
  mixed := by kernel_rfl
  f14 := Tryz.func45.trans (congrArg some (by kernel_rfl))
  f16 := Tryz.func58.trans (congrArg some (by kernel_rfl))
  f17 := Tryz.func59.trans (congrArg some (by kernel_rfl))
  f19 := Tryz.func71.trans (congrArg some (by kernel_rfl))
  f20 := Tryz.func72.trans (congrArg some (by kernel_rfl))
  f21 := Tryz.func73.trans (congrArg some (by kernel_rfl))
  f22 := Tryz.func74.trans (congrArg some (by kernel_rfl))
  f23 := Tryz.func75.trans (congrArg some (by kernel_rfl))
  f24 := Tryz.func76.trans (congrArg some (by kernel_rfl))
  f25 := Tryz.func92.trans (congrArg some (by kernel_rfl))
  f26 := Tryz.func46.trans (congrArg some (by kernel_rfl))
  f27 := Tryz.func93.trans (congrArg some (by kernel_rfl))
  f28 := Tryz.func104.trans (congrArg some (by kernel_rfl))
  f29 := Tryz.func107.trans (congrArg some (by kernel_rfl))
  f30 := Tryz.func63.trans (congrArg some (by kernel_rfl))
  f31 := Tryz.func64.trans (congrArg some (by kernel_rfl))
  f32 := Tryz.func65.trans (congrArg some (by kernel_rfl))
  f33 := Tryz.func66.trans (congrArg some (by kernel_rfl))
  f34 := Tryz.func82.trans (congrArg some (by kernel_rfl))
  f35 := Tryz.func83.trans (congrArg some (by kernel_rfl))
  f36 := Tryz.func84.trans (congrArg some (by kernel_rfl))
  f37 := Tryz.func85.trans (congrArg some (by kernel_rfl))
  f38 := Tryz.func86.trans (congrArg some (by kernel_rfl))
  f39 := Tryz.func96.trans (congrArg some (by kernel_rfl))
  f40 := Tryz.func97.trans (congrArg some (by kernel_rfl))
  t0 := Tryz.underlying0
  a0 := Tryz.isAgg0
  z0 := Tryz.sizeOf0
  v0 := Tryz.zeroValue0
  i0 := by kernel_rfl
  t2 := Tryz.underlying2
  a2 := Tryz.isAgg2
  z2 := Tryz.sizeOf2
  v2 := Tryz.zeroValue2
  i2 := by kernel_rfl
  t3 := Tryz.underlying3
  a3 := Tryz.isAgg3
  z3 := Tryz.sizeOf3
  v3 := Tryz.zeroValue3
  i3 := by kernel_rfl
  t4 := Tryz.underlying4
  a4 := Tryz.isAgg4
  z4 := Tryz.sizeOf4
  v4 := Tryz.zeroValue4
  i4 := by kernel_rfl
  t5 := Tryz.underlying5
  a5 := Tryz.isAgg5
  z5 := Tryz.sizeOf5
  v5 := Tryz.zeroValue5
  i5 := by kernel_rfl
  t9 := Tryz.underlying9
  a9 := Tryz.isAgg9
  z9 := Tryz.sizeOf9
  v9 := Tryz.zeroValue9
  i9 := by kernel_rfl
  t20 := Tryz.underlying20
  a20 := Tryz.isAgg20
  z20 := Tryz.sizeOf20
  v20 := Tryz.zeroValue20
  i20 := by kernel_rfl
  t21 := Tryz.underlying21
  a21 := Tryz.isAgg21
  z21 := Tryz.sizeOf21
  v21 := Tryz.zeroValue21
  i21 := by kernel_rfl
  t22 := Tryz.underlying22
  a22 := Tryz.isAgg22
  z22 := Tryz.sizeOf22
  v22 := Tryz.zeroValue22
  i22 := by kernel_rfl
  t24 := Tryz.underlying51
  a24 := Tryz.isAgg51
  z24 := Tryz.sizeOf51
  v24 := Tryz.zeroValue51
  i24 := by kernel_rfl
  t25 := Tryz.underlying83
  a25 := Tryz.isAgg83
  z25 := Tryz.sizeOf83
  v25 := Tryz.zeroValue83
  i25 := by kernel_rfl
  t34 := Tryz.underlying126
  a34 := Tryz.isAgg126
  z34 := Tryz.sizeOf126
  v34 := Tryz.zeroValue126
  i34 := by kernel_rfl
  c34 := by kernel_rfl
  t36 := Tryz.underlying72
  a36 := Tryz.isAgg72
  z36 := Tryz.sizeOf72
  v36 := Tryz.zeroValue72
  i36 := by kernel_rfl
  t37 := Tryz.underlying47
  a37 := Tryz.isAgg47
  z37 := Tryz.sizeOf47
  v37 := Tryz.zeroValue47
  i37 := by kernel_rfl
  t39 := Tryz.underlying128
  a39 := Tryz.isAgg128
  z39 := Tryz.sizeOf128
  v39 := Tryz.zeroValue128
  i39 := by kernel_rfl
  t44 := Tryz.underlying161
  a44 := Tryz.isAgg161
  z44 := Tryz.sizeOf161
  v44 := Tryz.zeroValue161
  i44 := by kernel_rfl
  t47 := Tryz.underlying175
  a47 := Tryz.isAgg175
  z47 := Tryz.sizeOf175
  v47 := Tryz.zeroValue175
  i47 := by kernel_rfl
  t48 := Tryz.underlying108
  a48 := Tryz.isAgg108
  z48 := Tryz.sizeOf108
  v48 := Tryz.zeroValue108
  i48 := by kernel_rfl
  t50 := Tryz.underlying110
  a50 := Tryz.isAgg110
  z50 := Tryz.sizeOf110
  v50 := Tryz.zeroValue110
  i50 := by kernel_rfl
  t52 := Tryz.underlying114
  a52 := Tryz.isAgg114
  z52 := Tryz.sizeOf114
  v52 := Tryz.zeroValue114
  i52 := by kernel_rfl
  t55 := Tryz.underlying117
  a55 := Tryz.isAgg117
  z55 := Tryz.sizeOf117
  v55 := Tryz.zeroValue117
  i55 := by kernel_rfl
  t59 := Tryz.underlying136
  a59 := Tryz.isAgg136
  z59 := Tryz.sizeOf136
  v59 := Tryz.zeroValue136
  i59 := by kernel_rfl
  t60 := Tryz.underlying99
  a60 := Tryz.isAgg99
  z60 := Tryz.sizeOf99
  v60 := Tryz.zeroValue99
  i60 := by kernel_rfl
  t61 := Tryz.underlying137
  a61 := Tryz.isAgg137
  z61 := Tryz.sizeOf137
  t65 := Tryz.underlying176
  a65 := Tryz.isAgg176
  z65 := Tryz.sizeOf176
  v65 := Tryz.zeroValue176
  i65 := by kernel_rfl
  t66 := Tryz.underlying177
  a66 := Tryz.isAgg177
  z66 := Tryz.sizeOf177
  v66 := Tryz.zeroValue177
  i66 := by kernel_rfl
  t67 := Tryz.underlying54
  a67 := Tryz.isAgg54
  z67 := Tryz.sizeOf54
  v67 := Tryz.zeroValue54
  i67 := by kernel_rfl
  g0 := by kernel_rfl
  m0 := by kernel_rfl
  g1 := by kernel_rfl
  m1 := by kernel_rfl
  g2 := by kernel_rfl
  m2 := by kernel_rfl
  g3 := by kernel_rfl
  m3 := by kernel_rfl
  g4 := by kernel_rfl
  m4 := by kernel_rfl }
open Go.RowKit in
/-- strconv.ParseUint(s, 10, 64), AT EVERY STRING THAT SPELLS A uint64 ('Lib.parseUintB 64 s.data.toList = .ok u'): u, AND NO ERROR. (LAID: no walk: one application.) -/
theorem Tryz.strconv_ParseUint_10_at64_ok (s : ByteArray) (hmax : s.size ≤ 9223372036854775806) (u : Nat) (h : Lib.parseUintB 64 s.data.toList = .ok u) (w : World) :
    Calls Tryz.prog 45 #[.string s, .int .i64 10, .int .i64 64] w fun e w' => e = .returned (.tuple #[.int .u64 u, .nilIface]) ∧ (w' = w ∨ w' = Lib.bytesWorld w 5 s) := Any.strconv_ParseUint_10_at64_ok Tryz.laysPu14 s hmax u h w
def Tryz.laysGw15_ren : Go.Shelf.Ren := ⟨fun | 15 => 79 | 20 => 94 | n => n, fun | 9 => 9 | 23 => 134 | 3 => 3 | 4 => 4 | 0 => 0 | 21 => 21 | n => n, fun | n => n⟩
theorem Tryz.laysGw15 : Go.Proofs.LaysGw.n15 Tryz.prog Tryz.laysGw15_ren := {
  mixed := by kernel_rfl
  f15 := Tryz.func79.trans (congrArg some (by kernel_rfl))
  f20 := Tryz.func94.trans (congrArg some (by kernel_rfl))
  t0 := Tryz.underlying0
  a0 := Tryz.isAgg0
  z0 := Tryz.sizeOf0
  v0 := Tryz.zeroValue0
  i0 := by kernel_rfl
  t3 := Tryz.underlying3
  a3 := Tryz.isAgg3
  z3 := Tryz.sizeOf3
  v3 := Tryz.zeroValue3
  i3 := by kernel_rfl
  t4 := Tryz.underlying4
  a4 := Tryz.isAgg4
  z4 := Tryz.sizeOf4
  v4 := Tryz.zeroValue4
  i4 := by kernel_rfl
  t9 := Tryz.underlying9
  a9 := Tryz.isAgg9
  z9 := Tryz.sizeOf9
  v9 := Tryz.zeroValue9
  i9 := by kernel_rfl
  t21 := Tryz.underlying21
  a21 := Tryz.isAgg21
  z21 := Tryz.sizeOf21
  v21 := Tryz.zeroValue21
  i21 := by kernel_rfl
  t23 := Tryz.underlying134
  a23 := Tryz.isAgg134
  z23 := Tryz.sizeOf134
  v23 := Tryz.zeroValue134
  i23 := by kernel_rfl }
def Tryz.lays206_ren : Go.Shelf.Ren := ⟨fun | 206 => 77 | n => n, fun | 9 => 9 | 4 => 4 | 3 => 3 | n => n, fun | n => n⟩
def Tryz.lays101_ren : Go.Shelf.Ren := ⟨fun | 101 => 47 | 208 => 60 | 206 => 77 | n => n, fun | 9 => 9 | 4 => 4 | 3 => 3 | n => n, fun | n => n⟩
theorem Tryz.lays101 : Go.Proofs.Lays.n101 Tryz.prog Tryz.lays101_ren := {
  mixed := by kernel_rfl
  f101 := Tryz.func47.trans (congrArg some (by kernel_rfl))
  f206 := Tryz.func77.trans (congrArg some (by kernel_rfl))
  f208 := Tryz.func60.trans (congrArg some (by kernel_rfl))
  t3 := Tryz.underlying3
  a3 := Tryz.isAgg3
  z3 := Tryz.sizeOf3
  v3 := Tryz.zeroValue3
  t4 := Tryz.underlying4
  a4 := Tryz.isAgg4
  z4 := Tryz.sizeOf4
  v4 := Tryz.zeroValue4
  t9 := Tryz.underlying9
  a9 := Tryz.isAgg9
  z9 := Tryz.sizeOf9
  v9 := Tryz.zeroValue9 }
open Go.RowKit Go.Lib in
/-- strings.TrimPrefix: "TrimPrefix returns s without the provided leading prefix string. If s doesn't start with prefix, s is returned unchanged.": IT RETURNS 'Lib.trimPrefix s prefix'; the world is as it was. (LAID: no walk: one application.) -/
theorem Tryz.strings_TrimPrefix (s p : ByteArray) (w : World) :
    Calls Tryz.prog 47 #[.string s, .string p] w fun e w' => e = .returned (.string ⟨(Lib.trimPrefix s.data.toList p.data.toList).toArray⟩) ∧ w' = w := Any.strings_TrimPrefix Tryz.lays101 s p w
open Go.RowKit Go.Lib in
theorem Tryz.strings_IndexFunc_grows (g : Nat) (lb : Array Value) (eg : ∀ args w, (callFunc g args).run Tryz.prog w = .ok (.enter g args) w) (p : Nat → Bool) (s : ByteArray) (w : World) (hp : PredGrows Tryz.prog g lb p w) :
    Calls Tryz.prog 79 #[.string s, .func (.func g) #[] lb] w fun e w' => e = .returned (.int .i64 (Lib.idxFunc p true s)) ∧ Below w.heap.size w w' := Any.strings_IndexFunc_grows Tryz.laysGw15 g lb eg p s w hp
end Go.Proofs
