/- Functions that path.Match reaches: two of them on no way that is told here (their texts are 'none'), and internal/bytealg.IndexByteString, which the model has in its place. -/
import Derived.Test.YtbdlcbllcjpaaaaDoorPGx0
import Derived.Lib.Bytealg
namespace Go.Proofs.YtbdlcbllcjpaaaaDoor.H
open Go.RowKit Go.Proofs.YtbdlcbllcjpaaaaDoorW.PrintWords
set_option linter.unusedVariables false

def path_getEsc.f (a0 : ByteArray) : Option (Int × ByteArray × Option Int) := none
theorem path_getEsc.calls (a0 : ByteArray) (r1 : Int) (r2 : ByteArray) (r3 : Option Int) (w : World) (h : path_getEsc.f a0 = some (r1, r2, r3)) :
    Calls Tryd.prog 21 #[.string a0] w fun e w' => e = .returned (.tuple #[.int .i32 r1, .string r2, PG.errW r3]) ∧ Below w.heap.size w w' := by
  simp [path_getEsc.f] at h

def utf8_decodeRuneInStringSlow.f (a0 : ByteArray) : Option (Int × Int) := none
theorem utf8_decodeRuneInStringSlow.calls (a0 : ByteArray) (r1 r2 : Int) (w : World) (h : utf8_decodeRuneInStringSlow.f a0 = some (r1, r2)) :
    Calls Tryd.prog 22 #[.string a0] w fun e w' => e = .returned (.tuple #[.int .i32 r1, .int .i64 r2]) ∧ Below w.heap.size w w' := by
  simp [utf8_decodeRuneInStringSlow.f] at h

def bytealg_IndexByteString.f (a0 : ByteArray) (a1 : Int) : Option Int := some (Lib.indexByte a0.data.toList a1.toNat.toUInt8)
theorem bytealg_IndexByteString.run (a0 : ByteArray) (a1 : Int) (r : Int) (w : World) (h : bytealg_IndexByteString.f a0 a1 = some r) :
    (callFunc 18 #[.string a0, .int .u8 a1]).run Tryd.prog w = .ok (.value (.int .i64 r)) w := by
  obtain rfl := Option.some.inj h
  rw [run_callFunc_extern Tryd.func18 (by kernel_rfl) (by kernel_rfl) (by kernel_rfl) (e := Extern.BytealgIndexByte.indexByte) (by kernel_rfl), Lib.run_indexByteString]
  rfl
end Go.Proofs.YtbdlcbllcjpaaaaDoor.H
