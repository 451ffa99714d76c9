/- What the code says of a good term is what the specification says. -/
import Derived.Test.YtgenbmhmcnaiiaaDoorHaTermSKE
import Derived.Test.YtgenbmhmcnaiiaaDoorT3AllKE
namespace Go.Proofs.YtgenbmhmcnaiiaaDoor.H
open Go.RowKit Go.Proofs.YtgenbmhmcnaiiaaDoor.PG
open Go.Proofs.YtgenbmhmcnaiiaaDoorW.PrintWords hiding Ev Ev.bind
set_option linter.unusedVariables false
set_option linter.unusedSimpArgs false

theorem opOf_small {o : Int} (h0 : 0 ≤ o) (h8 : o < 8) : opOf o = o := by
  have h : o = 0 ∨ o = 1 ∨ o = 2 ∨ o = 3 ∨ o = 4 ∨ o = 5 ∨ o = 6 ∨ o = 7 := by omega
  rcases h with rfl | rfl | rfl | rfl | rfl | rfl | rfl | rfl <;> decide
theorem opText_known (b : Int) : OpKnown (opText b) := by
  unfold opText OpKnown
  repeat' split
  all_goals simp

/-- What the code says for an operator by its number. -/
def opHolds (o : Int) (d md pd pre : Bool) (a b c : Int) (p : ByteArray) (a' b' c' : Int) (p' : ByteArray) : Bool :=
  if o = 0 then eqHolds d md pd pre a b p a' b' c' (verCmp a b c p a' b' c' p')
  else if o = 1 then neHolds d md pd pre a b c p a' b' c' p' (verCmp a b c p a' b' c' p') (preCmp p p')
  else if o = 2 then gtHolds d md pd pre a b p a' b' (verCmp a b c p a' b' c' p')
  else if o = 3 then ltHolds pre p (verCmp a b c p a' b' c' p')
  else if o = 4 then geHolds pre p (verCmp a b c p a' b' c' p')
  else if o = 5 then leHolds d md pre a b p a' b' (verCmp a b c p a' b' c' p')
  else if o = 6 then tildeHolds md pd pre a b p a' b' c' (verCmp a b c p a' b' c' p')
  else caretHolds md pd pre a b c p a' b' c' (verCmp a b c p a' b' c' p')
theorem checkHolds_op {o : Int} (h0 : 0 ≤ o) (h8 : o < 8) (d md pd pre : Bool) (a b c : Int) (p : ByteArray) (a' b' c' : Int) (p' : ByteArray) :
    checkHolds (opText (opOf o)) d md pd pre a b c p a' b' c' p' = opHolds o d md pd pre a b c p a' b' c' p' := by
  rw [opOf_small h0 h8]
  have h : o = 0 ∨ o = 1 ∨ o = 2 ∨ o = 3 ∨ o = 4 ∨ o = 5 ∨ o = 6 ∨ o = 7 := by omega
  unfold checkHolds opHolds
  rcases h with rfl | rfl | rfl | rfl | rfl | rfl | rfl | rfl
  · have e : opText 0 = ⟨#[61]⟩ := rfl
    rw [e, if_pos rfl, if_pos rfl]
  · have e : opText 1 = ⟨#[33, 61]⟩ := rfl
    rw [e, if_neg (by decide), if_pos rfl, if_neg (by decide), if_pos rfl]
  · have e : opText 2 = ⟨#[62]⟩ := rfl
    rw [e, if_neg (by decide), if_neg (by decide), if_pos rfl, if_neg (by decide), if_neg (by decide), if_pos rfl]
  · have e : opText 3 = ⟨#[60]⟩ := rfl
    rw [e, if_neg (by decide), if_neg (by decide), if_neg (by decide), if_pos rfl, if_neg (by decide), if_neg (by decide), if_neg (by decide), if_pos rfl]
  · have e : opText 4 = ⟨#[62, 61]⟩ := rfl
    rw [e, if_neg (by decide), if_neg (by decide), if_neg (by decide), if_neg (by decide), if_pos rfl, if_neg (by decide), if_neg (by decide), if_neg (by decide), if_neg (by decide), if_pos rfl]
  · have e : opText 5 = ⟨#[60, 61]⟩ := rfl
    rw [e, if_neg (by decide), if_neg (by decide), if_neg (by decide), if_neg (by decide), if_neg (by decide), if_pos rfl, if_neg (by decide), if_neg (by decide), if_neg (by decide), if_neg (by decide), if_neg (by decide), if_pos rfl]
  · have e : opText 6 = ⟨#[126]⟩ := rfl
    rw [e, if_neg (by decide), if_neg (by decide), if_neg (by decide), if_neg (by decide), if_neg (by decide), if_neg (by decide), if_pos rfl, if_neg (by decide), if_neg (by decide), if_neg (by decide), if_neg (by decide), if_neg (by decide), if_neg (by decide), if_pos rfl]
  · have e : opText 7 = ⟨#[94]⟩ := rfl
    rw [e, if_neg (by decide), if_neg (by decide), if_neg (by decide), if_neg (by decide), if_neg (by decide), if_neg (by decide), if_neg (by decide), if_neg (by decide), if_neg (by decide), if_neg (by decide), if_neg (by decide), if_neg (by decide), if_neg (by decide), if_neg (by decide)]

end Go.Proofs.YtgenbmhmcnaiiaaDoor.H
