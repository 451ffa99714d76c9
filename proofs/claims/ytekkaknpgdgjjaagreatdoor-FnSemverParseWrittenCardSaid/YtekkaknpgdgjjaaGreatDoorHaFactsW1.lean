/- The closed facts of a row, each a lemma by itself. -/
import Derived.Test.YtekkaknpgdgjjaaGreatDoorHaRowW1
import Derived.Test.YtekkaknpgdgjjaaGreatDoorHaFactsP
import Derived.Test.YtekkaknpgdgjjaaGreatDoorHaFactsQ
namespace Go.Proofs.YtekkaknpgdgjjaaGreatDoor.H
set_option linter.unusedVariables false

set_option maxRecDepth 100000 in
theorem facts_of {f : FuncId} {fn : Func} {s : ChangeSpec} {c : OpenClaim}
    (hwf : c.wf (OpenSpec.ofChange s) = true) (hpr : fn.params.all (Tryz.prog.readableRec ·) = true) (hnt : namedTie Tryz.prog c.named s.vars = true)
    (hst : (c.stops == []) = true) (hkn : (c.knobs == []) = true)
    (hip : (c.inPlace == Tryz.prog.inPlace f) = true) (hun : (c.unfollowed == Tryz.prog.unfollowed f) = true) (hre : (c.recurses == Tryz.prog.recurses f) = true) (hnm : (c.named == Tryz.prog.varsNamed f) = true)
    (hmp : (c.maps == (fn.params.toList ++ s.plain.varTypes Tryz.prog).any (Tryz.prog.mapsRec ·)) = true) (hif : (c.ifaces == (fn.params.toList ++ s.plain.varTypes Tryz.prog).any (Tryz.prog.ifacesRec ·)) = true) (hmo : (c.mapsOut == Tryz.prog.mapsAmong fn.resultTypes.toList) = true)
    (hlo : (c.loops == (fn.params.toList ++ s.plain.varTypes Tryz.prog).any (Tryz.prog.loopsFrom ·)) = true) (hwk : (c.wideKeys == (fn.params.toList ++ s.plain.varTypes Tryz.prog ++ fn.resultTypes.toList).any (Tryz.prog.wideKeysFrom ·)) = true)
    (hva : s.vars.all (Tryz.prog.varReadable ·) = true) (hrt : fn.resultTypes.all (fun t => Tryz.prog.readableRec t && decide (t < Tryz.prog.types.size)) = true)
    (hio : (c.ifacesOut == fn.resultTypes.toList.any (Tryz.prog.ifacesRec ·)) = true) (hloo : (c.loopsOut == fn.resultTypes.toList.any (Tryz.prog.loopsFrom ·)) = true)
    (hpk : c.plainKeys = Rows.fnSemverLooseFillsRow.plainKeys) (hsh : c.shortTexts.isNone = true) (hli : c.lifted = Rows.fnSemverLooseFillsRow.lifted) (hmk : c.make = Rows.fnSemverLooseFillsRow.make)
    (hki : (c.kinds == (if c.domain.isEmpty then [] else fn.params.toList.map fun t => match Tryz.prog.underlying t with | some (.int k) => some k | _ => none)) = true) (hpi : (c.pinned == c.pinnedBy) = true)
    (hve : (c.veiled == (fn.params.toList ++ s.plain.varTypes Tryz.prog ++ fn.resultTypes.toList).any (Tryz.prog.veiledRec ·)) = true)
    (hvf : c.veiledFits Tryz.prog fn.params.toList (fn.params.toList ++ s.plain.varTypes Tryz.prog ++ fn.resultTypes.toList) = true) :
    joinedFacts Tryz.pinned.checked.prog f fn s c = true := by
  show joinedFacts Tryz.prog f fn s c = true
  unfold joinedFacts
  rw [hwf, laidOut, pMaps, hpr, hnt, hst, pStops, hkn, pKnobs, hip, hun, hre, hnm, hmp, hif, hmo, hlo, hwk, hva, hrt, hio, hloo, hpk, pKeys, hsh, pHeard, pEnter, hli, pFinal, hmk, pMake]
  simp only [beq_self_eq_true, Bool.and_self, Bool.true_and, Bool.and_eq_true]
  exact ⟨⟨⟨hki, hpi⟩, hve⟩, hvf⟩
end Go.Proofs.YtekkaknpgdgjjaaGreatDoor.H
