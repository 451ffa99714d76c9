/- Version.String: the text of a version. -/
import Derived.Test.YtgenbmhmcnaiiaaDoorHaFmtKS
import Derived.Test.YtgenbmhmcnaiiaaDoorHaVCmpKS
namespace Go.Proofs.YtgenbmhmcnaiiaaDoor.H
open Go.RowKit Go.Proofs.YtgenbmhmcnaiiaaDoorW.PrintWords
set_option linter.unusedVariables false
set_option linter.unusedSimpArgs false

def numText (a : Int) : ByteArray := ba (Lib.decDigits a.toNat)
def threeText (A B C : ByteArray) : ByteArray := A ++ (⟨#[46]⟩ : ByteArray) ++ B ++ (⟨#[46]⟩ : ByteArray) ++ C
def tailText (s p m : ByteArray) : ByteArray :=
  (fun s1 : ByteArray => if m.toList.isEmpty = true then s1 else s1 ++ ((⟨#[43]⟩ : ByteArray) ++ m)) (if p.toList.isEmpty = true then s else s ++ ((⟨#[45]⟩ : ByteArray) ++ p))
def verText (a b c : Int) (p m : ByteArray) : ByteArray := tailText (threeText (numText a) (numText b) (numText c)) p m

end Go.Proofs.YtgenbmhmcnaiiaaDoor.H
