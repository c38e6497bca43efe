/-
  THE CLOSED FACTS OF THE ROW 'fnSplitArgsRefusesUnclosedQuoteRow', each a lemma of its own.
-/
import Derived.Test.Qxb6001659aFacts
namespace Go.Proofs.Qxb6001659a.fnSplitArgsRefusesUnclosedQuote

theorem and_mk {a b : Bool} (ha : a = true) (hb : b = true) : (a && b) = true := by rw [ha, hb]; rfl
theorem fact0 : (Rows.fnSplitArgsRefusesUnclosedQuoteRow.wf (OpenSpec.ofChange Rows.fnSplitArgsRefusesUnclosedQuoteSpec)) = true := by kernel_rfl
theorem fact1 : (laidOutB Try.prog) = true := by kernel_rfl
theorem fact2 : (mapsRowed Try.prog) = true := by kernel_rfl
theorem fact3 : (Try.f3.params.all (Try.prog.readableRec ·)) = true := by kernel_rfl
theorem fact4 : (namedTie Try.prog Rows.fnSplitArgsRefusesUnclosedQuoteRow.named Rows.fnSplitArgsRefusesUnclosedQuoteSpec.vars) = true := by kernel_rfl
theorem fact5 : ((Rows.fnSplitArgsRefusesUnclosedQuoteRow.stops == [])) = true := by kernel_rfl
theorem fact6 : ((Try.prog.stops == [])) = true := by kernel_rfl
theorem fact7 : ((Rows.fnSplitArgsRefusesUnclosedQuoteRow.knobs == [])) = true := by kernel_rfl
theorem fact8 : ((Try.prog.stopKnobs == [])) = true := by kernel_rfl
theorem fact9 : ((Rows.fnSplitArgsRefusesUnclosedQuoteRow.inPlace == Try.prog.inPlace 3)) = true := by kernel_rfl
theorem fact10 : ((Rows.fnSplitArgsRefusesUnclosedQuoteRow.unfollowed == Try.prog.unfollowed 3)) = true := by kernel_rfl
theorem fact11 : ((Rows.fnSplitArgsRefusesUnclosedQuoteRow.recurses == Try.prog.recurses 3)) = true := by kernel_rfl
theorem fact12 : ((Rows.fnSplitArgsRefusesUnclosedQuoteRow.named == Try.prog.varsNamed 3)) = true := by kernel_rfl
theorem fact13 : ((Rows.fnSplitArgsRefusesUnclosedQuoteRow.maps == (Try.f3.params.toList ++ Rows.fnSplitArgsRefusesUnclosedQuoteSpec.plain.varTypes Try.prog).any (Try.prog.mapsRec ·))) = true := by kernel_rfl
theorem fact14 : ((Rows.fnSplitArgsRefusesUnclosedQuoteRow.ifaces == (Try.f3.params.toList ++ Rows.fnSplitArgsRefusesUnclosedQuoteSpec.plain.varTypes Try.prog).any (Try.prog.ifacesRec ·))) = true := by kernel_rfl
theorem fact15 : ((Rows.fnSplitArgsRefusesUnclosedQuoteRow.mapsOut == Try.prog.mapsAmong Try.f3.resultTypes.toList)) = true := by kernel_rfl
theorem fact16 : ((Rows.fnSplitArgsRefusesUnclosedQuoteRow.loops == (Try.f3.params.toList ++ Rows.fnSplitArgsRefusesUnclosedQuoteSpec.plain.varTypes Try.prog).any (Try.prog.loopsFrom ·))) = true := by kernel_rfl
theorem fact17 : ((Rows.fnSplitArgsRefusesUnclosedQuoteRow.wideKeys == (Try.f3.params.toList ++ Rows.fnSplitArgsRefusesUnclosedQuoteSpec.plain.varTypes Try.prog ++ Try.f3.resultTypes.toList).any (Try.prog.wideKeysFrom ·))) = true := by kernel_rfl
theorem fact18 : (Rows.fnSplitArgsRefusesUnclosedQuoteSpec.vars.all (Try.prog.varReadable ·)) = true := by kernel_rfl
theorem fact19 : (Try.f3.resultTypes.all (fun t => Try.prog.readableRec t && decide (t < Try.prog.types.size))) = true := by kernel_rfl
theorem fact20 : ((Rows.fnSplitArgsRefusesUnclosedQuoteRow.ifacesOut == Try.f3.resultTypes.toList.any (Try.prog.ifacesRec ·))) = true := by kernel_rfl
theorem fact21 : ((Rows.fnSplitArgsRefusesUnclosedQuoteRow.loopsOut == Try.f3.resultTypes.toList.any (Try.prog.loopsFrom ·))) = true := by kernel_rfl
theorem fact22 : ((Rows.fnSplitArgsRefusesUnclosedQuoteRow.plainKeys == Try.prog.plainKeys)) = true := by kernel_rfl
theorem fact23 : (Rows.fnSplitArgsRefusesUnclosedQuoteRow.shortTexts.isNone) = true := by kernel_rfl
theorem fact24 : (Try.prog.stopsHeard) = true := by kernel_rfl
theorem fact25 : (Try.prog.mayEnter) = true := Facts.mayEnter
theorem fact26 : ((Rows.fnSplitArgsRefusesUnclosedQuoteRow.lifted == Try.prog.liftsFinal)) = true := by rw [Facts.liftsFinal]; rfl
theorem fact27 : ((Try.prog.make == some Rows.fnSplitArgsRefusesUnclosedQuoteRow.make)) = true := by rw [Facts.make]; rfl
theorem fact28 : ((Rows.fnSplitArgsRefusesUnclosedQuoteRow.kinds == (if Rows.fnSplitArgsRefusesUnclosedQuoteRow.domain.isEmpty then [] else Try.f3.params.toList.map fun t => match Try.prog.underlying t with | some (.int k) => some k | _ => none))) = true := by kernel_rfl
theorem fact29 : ((Rows.fnSplitArgsRefusesUnclosedQuoteRow.pinned == Rows.fnSplitArgsRefusesUnclosedQuoteRow.pinnedBy)) = true := by kernel_rfl
theorem fact30 : ((Rows.fnSplitArgsRefusesUnclosedQuoteRow.veiled == (Try.f3.params.toList ++ Rows.fnSplitArgsRefusesUnclosedQuoteSpec.plain.varTypes Try.prog ++ Try.f3.resultTypes.toList).any (Try.prog.veiledRec ·))) = true := by kernel_rfl
theorem fact31 : (Rows.fnSplitArgsRefusesUnclosedQuoteRow.veiledFits Try.prog Try.f3.params.toList (Try.f3.params.toList ++ Rows.fnSplitArgsRefusesUnclosedQuoteSpec.plain.varTypes Try.prog ++ Try.f3.resultTypes.toList)) = true := by kernel_rfl

theorem closed : joinedFacts Try.prog 3 Try.f3 Rows.fnSplitArgsRefusesUnclosedQuoteSpec Rows.fnSplitArgsRefusesUnclosedQuoteRow = true := by
  unfold joinedFacts
  exact (and_mk (and_mk (and_mk (and_mk (and_mk (and_mk (and_mk (and_mk (and_mk (and_mk (and_mk (and_mk (and_mk (and_mk (and_mk (and_mk (and_mk (and_mk (and_mk (and_mk (and_mk (and_mk (and_mk (and_mk (and_mk (and_mk (and_mk (and_mk (and_mk (and_mk (and_mk fact0 fact1) fact2) fact3) fact4) fact5) fact6) fact7) fact8) fact9) fact10) fact11) fact12) fact13) fact14) fact15) fact16) fact17) fact18) fact19) fact20) fact21) fact22) fact23) fact24) fact25) fact26) fact27) fact28) fact29) fact30) fact31)

end Go.Proofs.Qxb6001659a.fnSplitArgsRefusesUnclosedQuote
