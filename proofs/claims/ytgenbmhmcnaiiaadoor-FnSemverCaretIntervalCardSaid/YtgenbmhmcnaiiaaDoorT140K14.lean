/- trial -/
import Derived.Test.YtgenbmhmcnaiiaaDoorT156K14
namespace Go.Proofs.YtgenbmhmcnaiiaaDoor.H
open Go.RowKit Go.Proofs.YtgenbmhmcnaiiaaDoorW.PrintWords
set_option linter.unusedVariables false
set_option linter.unusedSimpArgs false

/-- What a comparison function stands over: a version, a constraint, the constraint's version. -/
theorem Con.drew {w : World} {g : Nat} {v : Value} {op : ByteArray} {d md pd : Bool} (h : Con w g v op d md pd) : Con w.drew g v op d md pd := h
structure CW (w : World) (g k gc : Nat) (a b c : Int) (p m o : ByteArray) (a' b' c' : Int) (p' m' o' op : ByteArray) (d md pd : Bool) : Prop where
  ge : GE w
  v : Ver w g a b c p m o
  k : Con w k (.pointer (some ⟨gc, 0, none⟩)) op d md pd
  vc : Ver w gc a' b' c' p' m' o'
theorem CW.below {w w' : World} {g k gc : Nat} {a b c : Int} {p m o : ByteArray} {a' b' c' : Int} {p' m' o' op : ByteArray} {d md pd : Bool} (h : CW w g k gc a b c p m o a' b' c' p' m' o' op d md pd) (hb : Below w.heap.size w w') :
    CW w' g k gc a b c p m o a' b' c' p' m' o' op d md pd := ⟨h.ge.below hb, h.v.below hb, h.k.below hb, h.vc.below hb⟩

theorem two_res {r r' : Bool} {x : Value} (h : r' = r) : Ending.returned (.tuple #[.bool r, x]) = .returned (.tuple #[.bool r', x]) := by rw [h]

end Go.Proofs.YtgenbmhmcnaiiaaDoor.H
