/- The comparisons that the operators > < >= ^ ask for, by the operator's number. -/
import Derived.Test.YtgenbmhmcnaiiaaDoorT66CKN
namespace Go.Proofs.YtgenbmhmcnaiiaaDoor.H
open Go.RowKit
open Go.Proofs.YtgenbmhmcnaiiaaDoorW.PrintWords hiding Ev Ev.bind
set_option linter.unusedVariables false
set_option linter.unusedSimpArgs false

theorem opText2 : opText (opOf 2) = ⟨#[62]⟩ := by decide
theorem opText3 : opText (opOf 3) = ⟨#[60]⟩ := by decide
theorem opText4 : opText (opOf 4) = ⟨#[62, 61]⟩ := by decide
theorem opText7 : opText (opOf 7) = ⟨#[94]⟩ := by decide
theorem known2 : OpKnown (opText (opOf 2)) := by rw [opText2]; decide
theorem known3 : OpKnown (opText (opOf 3)) := by rw [opText3]; decide
theorem known4 : OpKnown (opText (opOf 4)) := by rw [opText4]; decide
theorem known7 : OpKnown (opText (opOf 7)) := by rw [opText7]; decide
theorem holds2 (d md pd pre : Bool) (a b c : Int) (p : ByteArray) (a' b' c' : Int) (p' : ByteArray) : checkHolds (opText (opOf 2)) d md pd pre a b c p a' b' c' p' = gtHolds d md pd pre a b p a' b' (verCmp a b c p a' b' c' p') := by
  rw [opText2]; unfold checkHolds; rw [if_pos rfl]
theorem holds3 (d md pd pre : Bool) (a b c : Int) (p : ByteArray) (a' b' c' : Int) (p' : ByteArray) : checkHolds (opText (opOf 3)) d md pd pre a b c p a' b' c' p' = ltHolds pre p (verCmp a b c p a' b' c' p') := by
  rw [opText3]; unfold checkHolds; rw [if_neg (by decide), if_pos rfl]
theorem holds4 (d md pd pre : Bool) (a b c : Int) (p : ByteArray) (a' b' c' : Int) (p' : ByteArray) : checkHolds (opText (opOf 4)) d md pd pre a b c p a' b' c' p' = geHolds pre p (verCmp a b c p a' b' c' p') := by
  rw [opText4]; unfold checkHolds; rw [if_neg (by decide), if_neg (by decide), if_pos rfl]
theorem holds7 (d md pd pre : Bool) (a b c : Int) (p : ByteArray) (a' b' c' : Int) (p' : ByteArray) : checkHolds (opText (opOf 7)) d md pd pre a b c p a' b' c' p' = caretHolds md pd pre a b c p a' b' c' (verCmp a b c p a' b' c' p') := by
  rw [opText7]; unfold checkHolds; rw [if_neg (by decide), if_neg (by decide), if_neg (by decide)]
end Go.Proofs.YtgenbmhmcnaiiaaDoor.H
