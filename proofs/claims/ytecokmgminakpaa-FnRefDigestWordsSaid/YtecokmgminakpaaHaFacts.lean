/- The closed facts of a row, each a lemma by itself. -/
import Derived.Test.YtecokmgminakpaaHaRow
import Derived.Test.YtecokmgminakpaaHaFactsP
namespace Go.Proofs.Ytecokmgminakpaa.H
set_option linter.unusedVariables false

set_option maxRecDepth 100000 in
theorem facts_of {f : FuncId} {fn : Func} {s : ChangeSpec} {c : OpenClaim}
    (hwf : c.wf (OpenSpec.ofChange s) = true) (hpr : fn.params.all (Try.prog.readableRec ·) = true) (hnt : namedTie Try.prog c.named s.vars = true)
    (hst : (c.stops == []) = true) (hkn : (c.knobs == []) = true)
    (hip : (c.inPlace == Try.prog.inPlace f) = true) (hun : (c.unfollowed == Try.prog.unfollowed f) = true) (hre : (c.recurses == Try.prog.recurses f) = true) (hnm : (c.named == Try.prog.varsNamed f) = true)
    (hmp : (c.maps == (fn.params.toList ++ s.plain.varTypes Try.prog).any (Try.prog.mapsRec ·)) = true) (hif : (c.ifaces == (fn.params.toList ++ s.plain.varTypes Try.prog).any (Try.prog.ifacesRec ·)) = true) (hmo : (c.mapsOut == Try.prog.mapsAmong fn.resultTypes.toList) = true)
    (hlo : (c.loops == (fn.params.toList ++ s.plain.varTypes Try.prog).any (Try.prog.loopsFrom ·)) = true) (hwk : (c.wideKeys == (fn.params.toList ++ s.plain.varTypes Try.prog ++ fn.resultTypes.toList).any (Try.prog.wideKeysFrom ·)) = true)
    (hva : s.vars.all (Try.prog.varReadable ·) = true) (hrt : fn.resultTypes.all (fun t => Try.prog.readableRec t && decide (t < Try.prog.types.size)) = true)
    (hio : (c.ifacesOut == fn.resultTypes.toList.any (Try.prog.ifacesRec ·)) = true) (hloo : (c.loopsOut == fn.resultTypes.toList.any (Try.prog.loopsFrom ·)) = true)
    (hpk : c.plainKeys = Rows.fnRefDigestWordsRow.plainKeys) (hsh : c.shortTexts.isNone = true) (hli : c.lifted = Rows.fnRefDigestWordsRow.lifted) (hmk : c.make = Rows.fnRefDigestWordsRow.make)
    (hki : (c.kinds == (if c.domain.isEmpty then [] else fn.params.toList.map fun t => match Try.prog.underlying t with | some (.int k) => some k | _ => none)) = true) (hpi : (c.pinned == c.pinnedBy) = true)
    (hve : (c.veiled == (fn.params.toList ++ s.plain.varTypes Try.prog ++ fn.resultTypes.toList).any (Try.prog.veiledRec ·)) = true)
    (hvf : c.veiledFits Try.prog fn.params.toList (fn.params.toList ++ s.plain.varTypes Try.prog ++ fn.resultTypes.toList) = true) :
    joinedFacts Try.pinned.checked.prog f fn s c = true := by
  show joinedFacts Try.prog f fn s c = true
  unfold joinedFacts
  rw [hwf, laidOut, pMaps, hpr, hnt, hst, pStops, hkn, pKnobs, hip, hun, hre, hnm, hmp, hif, hmo, hlo, hwk, hva, hrt, hio, hloo, hpk, pKeys, hsh, pHeard, pEnter, hli, pFinal, hmk, pMake]
  simp only [beq_self_eq_true, Bool.and_self, Bool.true_and, Bool.and_eq_true]
  exact ⟨⟨⟨hki, hpi⟩, hve⟩, hvf⟩
end Go.Proofs.Ytecokmgminakpaa.H
