/-
  THE CLOSED FACTS OF THE ROW 'fnSplitArgsRefusesTextGluedToClosingQuoteRow', each a lemma of its own.
-/
import Derived.Test.Qxb6001659aFacts
namespace Go.Proofs.Qxb6001659a.fnSplitArgsRefusesTextGluedToClosingQuote

theorem and_mk {a b : Bool} (ha : a = true) (hb : b = true) : (a && b) = true := by rw [ha, hb]; rfl
theorem fact0 : (Rows.fnSplitArgsRefusesTextGluedToClosingQuoteRow.wf (OpenSpec.ofChange Rows.fnSplitArgsRefusesTextGluedToClosingQuoteSpec)) = true := by kernel_rfl
theorem fact1 : (laidOutB Try.prog) = true := by kernel_rfl
theorem fact2 : (mapsRowed Try.prog) = true := by kernel_rfl
theorem fact3 : (Try.f4.params.all (Try.prog.readableRec ·)) = true := by kernel_rfl
theorem fact4 : (namedTie Try.prog Rows.fnSplitArgsRefusesTextGluedToClosingQuoteRow.named Rows.fnSplitArgsRefusesTextGluedToClosingQuoteSpec.vars) = true := by kernel_rfl
theorem fact5 : ((Rows.fnSplitArgsRefusesTextGluedToClosingQuoteRow.stops == [])) = true := by kernel_rfl
theorem fact6 : ((Try.prog.stops == [])) = true := by kernel_rfl
theorem fact7 : ((Rows.fnSplitArgsRefusesTextGluedToClosingQuoteRow.knobs == [])) = true := by kernel_rfl
theorem fact8 : ((Try.prog.stopKnobs == [])) = true := by kernel_rfl
theorem fact9 : ((Rows.fnSplitArgsRefusesTextGluedToClosingQuoteRow.inPlace == Try.prog.inPlace 4)) = true := by kernel_rfl
theorem fact10 : ((Rows.fnSplitArgsRefusesTextGluedToClosingQuoteRow.unfollowed == Try.prog.unfollowed 4)) = true := by kernel_rfl
theorem fact11 : ((Rows.fnSplitArgsRefusesTextGluedToClosingQuoteRow.recurses == Try.prog.recurses 4)) = true := by kernel_rfl
theorem fact12 : ((Rows.fnSplitArgsRefusesTextGluedToClosingQuoteRow.named == Try.prog.varsNamed 4)) = true := by kernel_rfl
theorem fact13 : ((Rows.fnSplitArgsRefusesTextGluedToClosingQuoteRow.maps == (Try.f4.params.toList ++ Rows.fnSplitArgsRefusesTextGluedToClosingQuoteSpec.plain.varTypes Try.prog).any (Try.prog.mapsRec ·))) = true := by kernel_rfl
theorem fact14 : ((Rows.fnSplitArgsRefusesTextGluedToClosingQuoteRow.ifaces == (Try.f4.params.toList ++ Rows.fnSplitArgsRefusesTextGluedToClosingQuoteSpec.plain.varTypes Try.prog).any (Try.prog.ifacesRec ·))) = true := by kernel_rfl
theorem fact15 : ((Rows.fnSplitArgsRefusesTextGluedToClosingQuoteRow.mapsOut == Try.prog.mapsAmong Try.f4.resultTypes.toList)) = true := by kernel_rfl
theorem fact16 : ((Rows.fnSplitArgsRefusesTextGluedToClosingQuoteRow.loops == (Try.f4.params.toList ++ Rows.fnSplitArgsRefusesTextGluedToClosingQuoteSpec.plain.varTypes Try.prog).any (Try.prog.loopsFrom ·))) = true := by kernel_rfl
theorem fact17 : ((Rows.fnSplitArgsRefusesTextGluedToClosingQuoteRow.wideKeys == (Try.f4.params.toList ++ Rows.fnSplitArgsRefusesTextGluedToClosingQuoteSpec.plain.varTypes Try.prog ++ Try.f4.resultTypes.toList).any (Try.prog.wideKeysFrom ·))) = true := by kernel_rfl
theorem fact18 : (Rows.fnSplitArgsRefusesTextGluedToClosingQuoteSpec.vars.all (Try.prog.varReadable ·)) = true := by kernel_rfl
theorem fact19 : (Try.f4.resultTypes.all (fun t => Try.prog.readableRec t && decide (t < Try.prog.types.size))) = true := by kernel_rfl
theorem fact20 : ((Rows.fnSplitArgsRefusesTextGluedToClosingQuoteRow.ifacesOut == Try.f4.resultTypes.toList.any (Try.prog.ifacesRec ·))) = true := by kernel_rfl
theorem fact21 : ((Rows.fnSplitArgsRefusesTextGluedToClosingQuoteRow.loopsOut == Try.f4.resultTypes.toList.any (Try.prog.loopsFrom ·))) = true := by kernel_rfl
theorem fact22 : ((Rows.fnSplitArgsRefusesTextGluedToClosingQuoteRow.plainKeys == Try.prog.plainKeys)) = true := by kernel_rfl
theorem fact23 : (Rows.fnSplitArgsRefusesTextGluedToClosingQuoteRow.shortTexts.isNone) = true := by kernel_rfl
theorem fact24 : (Try.prog.stopsHeard) = true := by kernel_rfl
theorem fact25 : (Try.prog.mayEnter) = true := Facts.mayEnter
theorem fact26 : ((Rows.fnSplitArgsRefusesTextGluedToClosingQuoteRow.lifted == Try.prog.liftsFinal)) = true := by rw [Facts.liftsFinal]; rfl
theorem fact27 : ((Try.prog.make == some Rows.fnSplitArgsRefusesTextGluedToClosingQuoteRow.make)) = true := by rw [Facts.make]; rfl
theorem fact28 : ((Rows.fnSplitArgsRefusesTextGluedToClosingQuoteRow.kinds == (if Rows.fnSplitArgsRefusesTextGluedToClosingQuoteRow.domain.isEmpty then [] else Try.f4.params.toList.map fun t => match Try.prog.underlying t with | some (.int k) => some k | _ => none))) = true := by kernel_rfl
theorem fact29 : ((Rows.fnSplitArgsRefusesTextGluedToClosingQuoteRow.pinned == Rows.fnSplitArgsRefusesTextGluedToClosingQuoteRow.pinnedBy)) = true := by kernel_rfl
theorem fact30 : ((Rows.fnSplitArgsRefusesTextGluedToClosingQuoteRow.veiled == (Try.f4.params.toList ++ Rows.fnSplitArgsRefusesTextGluedToClosingQuoteSpec.plain.varTypes Try.prog ++ Try.f4.resultTypes.toList).any (Try.prog.veiledRec ·))) = true := by kernel_rfl
theorem fact31 : (Rows.fnSplitArgsRefusesTextGluedToClosingQuoteRow.veiledFits Try.prog Try.f4.params.toList (Try.f4.params.toList ++ Rows.fnSplitArgsRefusesTextGluedToClosingQuoteSpec.plain.varTypes Try.prog ++ Try.f4.resultTypes.toList)) = true := by kernel_rfl

theorem closed : joinedFacts Try.prog 4 Try.f4 Rows.fnSplitArgsRefusesTextGluedToClosingQuoteSpec Rows.fnSplitArgsRefusesTextGluedToClosingQuoteRow = true := by
  unfold joinedFacts
  exact (and_mk (and_mk (and_mk (and_mk (and_mk (and_mk (and_mk (and_mk (and_mk (and_mk (and_mk (and_mk (and_mk (and_mk (and_mk (and_mk (and_mk (and_mk (and_mk (and_mk (and_mk (and_mk (and_mk (and_mk (and_mk (and_mk (and_mk (and_mk (and_mk (and_mk (and_mk fact0 fact1) fact2) fact3) fact4) fact5) fact6) fact7) fact8) fact9) fact10) fact11) fact12) fact13) fact14) fact15) fact16) fact17) fact18) fact19) fact20) fact21) fact22) fact23) fact24) fact25) fact26) fact27) fact28) fact29) fact30) fact31)

end Go.Proofs.Qxb6001659a.fnSplitArgsRefusesTextGluedToClosingQuote
