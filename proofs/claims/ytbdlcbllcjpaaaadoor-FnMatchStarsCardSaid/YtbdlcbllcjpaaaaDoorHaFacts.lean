/- The closed facts of a row, each a lemma by itself. -/
import Derived.Test.YtbdlcbllcjpaaaaDoorHaRow
import Derived.Test.YtbdlcbllcjpaaaaDoorHaFactsP
import Derived.Test.YtbdlcbllcjpaaaaDoorHaFactsQ
namespace Go.Proofs.YtbdlcbllcjpaaaaDoor.H
set_option linter.unusedVariables false

set_option maxRecDepth 100000 in
theorem facts_of {f : FuncId} {fn : Func} {s : ChangeSpec} {c : OpenClaim}
    (hwf : c.wf (OpenSpec.ofChange s) = true) (hpr : fn.params.all (Tryd.prog.readableRec ·) = true) (hnt : namedTie Tryd.prog c.named s.vars = true)
    (hst : (c.stops == []) = true) (hkn : (c.knobs == []) = true)
    (hip : (c.inPlace == Tryd.prog.inPlace f) = true) (hun : (c.unfollowed == Tryd.prog.unfollowed f) = true) (hre : (c.recurses == Tryd.prog.recurses f) = true) (hnm : (c.named == Tryd.prog.varsNamed f) = true)
    (hmp : (c.maps == (fn.params.toList ++ s.plain.varTypes Tryd.prog).any (Tryd.prog.mapsRec ·)) = true) (hif : (c.ifaces == (fn.params.toList ++ s.plain.varTypes Tryd.prog).any (Tryd.prog.ifacesRec ·)) = true) (hmo : (c.mapsOut == Tryd.prog.mapsAmong fn.resultTypes.toList) = true)
    (hlo : (c.loops == (fn.params.toList ++ s.plain.varTypes Tryd.prog).any (Tryd.prog.loopsFrom ·)) = true) (hwk : (c.wideKeys == (fn.params.toList ++ s.plain.varTypes Tryd.prog ++ fn.resultTypes.toList).any (Tryd.prog.wideKeysFrom ·)) = true)
    (hva : s.vars.all (Tryd.prog.varReadable ·) = true) (hrt : fn.resultTypes.all (fun t => Tryd.prog.readableRec t && decide (t < Tryd.prog.types.size)) = true)
    (hio : (c.ifacesOut == fn.resultTypes.toList.any (Tryd.prog.ifacesRec ·)) = true) (hloo : (c.loopsOut == fn.resultTypes.toList.any (Tryd.prog.loopsFrom ·)) = true)
    (hpk : c.plainKeys = Rows.fnMatchStarsRow.plainKeys) (hsh : c.shortTexts.isNone = true) (hli : c.lifted = Rows.fnMatchStarsRow.lifted) (hmk : c.make = Rows.fnMatchStarsRow.make)
    (hki : (c.kinds == (if c.domain.isEmpty then [] else fn.params.toList.map fun t => match Tryd.prog.underlying t with | some (.int k) => some k | _ => none)) = true) (hpi : (c.pinned == c.pinnedBy) = true)
    (hve : (c.veiled == (fn.params.toList ++ s.plain.varTypes Tryd.prog ++ fn.resultTypes.toList).any (Tryd.prog.veiledRec ·)) = true)
    (hvf : c.veiledFits Tryd.prog fn.params.toList (fn.params.toList ++ s.plain.varTypes Tryd.prog ++ fn.resultTypes.toList) = true) :
    joinedFacts Tryd.pinned.checked.prog f fn s c = true := by
  show joinedFacts Tryd.prog f fn s c = true
  unfold joinedFacts
  rw [hwf, laidOut, pMaps, hpr, hnt, hst, pStops, hkn, pKnobs, hip, hun, hre, hnm, hmp, hif, hmo, hlo, hwk, hva, hrt, hio, hloo, hpk, pKeys, hsh, pHeard, pEnter, hli, pFinal, hmk, pMake]
  simp only [beq_self_eq_true, Bool.and_self, Bool.true_and, Bool.and_eq_true]
  exact ⟨⟨⟨hki, hpi⟩, hve⟩, hvf⟩
end Go.Proofs.YtbdlcbllcjpaaaaDoor.H
