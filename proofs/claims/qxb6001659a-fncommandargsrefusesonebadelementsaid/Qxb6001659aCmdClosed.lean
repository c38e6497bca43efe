/-
  THE CLOSED FACTS OF THE ROW 'fnCommandArgsRefusesOneBadElementRow', each a lemma of its own.
-/
import Derived.Test.Qxb6001659aFacts
namespace Go.Proofs.Qxb6001659a.fnCommandArgsRefusesOneBadElement

theorem and_mk {a b : Bool} (ha : a = true) (hb : b = true) : (a && b) = true := by rw [ha, hb]; rfl
theorem fact0 : (Rows.fnCommandArgsRefusesOneBadElementRow.wf (OpenSpec.ofChange Rows.fnCommandArgsRefusesOneBadElementSpec)) = true := by kernel_rfl
theorem fact1 : (laidOutB Try.prog) = true := by kernel_rfl
theorem fact2 : (mapsRowed Try.prog) = true := by kernel_rfl
theorem fact3 : (Try.f11.params.all (Try.prog.readableRec ·)) = true := by kernel_rfl
theorem fact4 : (namedTie Try.prog Rows.fnCommandArgsRefusesOneBadElementRow.named Rows.fnCommandArgsRefusesOneBadElementSpec.vars) = true := by kernel_rfl
theorem fact5 : ((Rows.fnCommandArgsRefusesOneBadElementRow.stops == [])) = true := by kernel_rfl
theorem fact6 : ((Try.prog.stops == [])) = true := by kernel_rfl
theorem fact7 : ((Rows.fnCommandArgsRefusesOneBadElementRow.knobs == [])) = true := by kernel_rfl
theorem fact8 : ((Try.prog.stopKnobs == [])) = true := by kernel_rfl
theorem fact9 : ((Rows.fnCommandArgsRefusesOneBadElementRow.inPlace == Try.prog.inPlace 11)) = true := by kernel_rfl
theorem fact10 : ((Rows.fnCommandArgsRefusesOneBadElementRow.unfollowed == Try.prog.unfollowed 11)) = true := by kernel_rfl
theorem fact11 : ((Rows.fnCommandArgsRefusesOneBadElementRow.recurses == Try.prog.recurses 11)) = true := by kernel_rfl
theorem fact12 : ((Rows.fnCommandArgsRefusesOneBadElementRow.named == Try.prog.varsNamed 11)) = true := by kernel_rfl
theorem fact13 : ((Rows.fnCommandArgsRefusesOneBadElementRow.maps == (Try.f11.params.toList ++ Rows.fnCommandArgsRefusesOneBadElementSpec.plain.varTypes Try.prog).any (Try.prog.mapsRec ·))) = true := by kernel_rfl
theorem fact14 : ((Rows.fnCommandArgsRefusesOneBadElementRow.ifaces == (Try.f11.params.toList ++ Rows.fnCommandArgsRefusesOneBadElementSpec.plain.varTypes Try.prog).any (Try.prog.ifacesRec ·))) = true := by kernel_rfl
theorem fact15 : ((Rows.fnCommandArgsRefusesOneBadElementRow.mapsOut == Try.prog.mapsAmong Try.f11.resultTypes.toList)) = true := by kernel_rfl
theorem fact16 : ((Rows.fnCommandArgsRefusesOneBadElementRow.loops == (Try.f11.params.toList ++ Rows.fnCommandArgsRefusesOneBadElementSpec.plain.varTypes Try.prog).any (Try.prog.loopsFrom ·))) = true := by kernel_rfl
theorem fact17 : ((Rows.fnCommandArgsRefusesOneBadElementRow.wideKeys == (Try.f11.params.toList ++ Rows.fnCommandArgsRefusesOneBadElementSpec.plain.varTypes Try.prog ++ Try.f11.resultTypes.toList).any (Try.prog.wideKeysFrom ·))) = true := by kernel_rfl
theorem fact18 : (Rows.fnCommandArgsRefusesOneBadElementSpec.vars.all (Try.prog.varReadable ·)) = true := by kernel_rfl
theorem fact19 : (Try.f11.resultTypes.all (fun t => Try.prog.readableRec t && decide (t < Try.prog.types.size))) = true := by kernel_rfl
theorem fact20 : ((Rows.fnCommandArgsRefusesOneBadElementRow.ifacesOut == Try.f11.resultTypes.toList.any (Try.prog.ifacesRec ·))) = true := by kernel_rfl
theorem fact21 : ((Rows.fnCommandArgsRefusesOneBadElementRow.loopsOut == Try.f11.resultTypes.toList.any (Try.prog.loopsFrom ·))) = true := by kernel_rfl
theorem fact22 : ((Rows.fnCommandArgsRefusesOneBadElementRow.plainKeys == Try.prog.plainKeys)) = true := by kernel_rfl
theorem fact23 : (Rows.fnCommandArgsRefusesOneBadElementRow.shortTexts.isNone) = true := by kernel_rfl
theorem fact24 : (Try.prog.stopsHeard) = true := by kernel_rfl
theorem fact25 : (Try.prog.mayEnter) = true := Facts.mayEnter
theorem fact26 : ((Rows.fnCommandArgsRefusesOneBadElementRow.lifted == Try.prog.liftsFinal)) = true := by rw [Facts.liftsFinal]; rfl
theorem fact27 : ((Try.prog.make == some Rows.fnCommandArgsRefusesOneBadElementRow.make)) = true := by rw [Facts.make]; rfl
theorem fact28 : ((Rows.fnCommandArgsRefusesOneBadElementRow.kinds == (if Rows.fnCommandArgsRefusesOneBadElementRow.domain.isEmpty then [] else Try.f11.params.toList.map fun t => match Try.prog.underlying t with | some (.int k) => some k | _ => none))) = true := by kernel_rfl
theorem fact29 : ((Rows.fnCommandArgsRefusesOneBadElementRow.pinned == Rows.fnCommandArgsRefusesOneBadElementRow.pinnedBy)) = true := by kernel_rfl
theorem fact30 : ((Rows.fnCommandArgsRefusesOneBadElementRow.veiled == (Try.f11.params.toList ++ Rows.fnCommandArgsRefusesOneBadElementSpec.plain.varTypes Try.prog ++ Try.f11.resultTypes.toList).any (Try.prog.veiledRec ·))) = true := by kernel_rfl
theorem fact31 : (Rows.fnCommandArgsRefusesOneBadElementRow.veiledFits Try.prog Try.f11.params.toList (Try.f11.params.toList ++ Rows.fnCommandArgsRefusesOneBadElementSpec.plain.varTypes Try.prog ++ Try.f11.resultTypes.toList)) = true := by kernel_rfl

theorem closed : joinedFacts Try.prog 11 Try.f11 Rows.fnCommandArgsRefusesOneBadElementSpec Rows.fnCommandArgsRefusesOneBadElementRow = true := by
  unfold joinedFacts
  exact (and_mk (and_mk (and_mk (and_mk (and_mk (and_mk (and_mk (and_mk (and_mk (and_mk (and_mk (and_mk (and_mk (and_mk (and_mk (and_mk (and_mk (and_mk (and_mk (and_mk (and_mk (and_mk (and_mk (and_mk (and_mk (and_mk (and_mk (and_mk (and_mk (and_mk (and_mk fact0 fact1) fact2) fact3) fact4) fact5) fact6) fact7) fact8) fact9) fact10) fact11) fact12) fact13) fact14) fact15) fact16) fact17) fact18) fact19) fact20) fact21) fact22) fact23) fact24) fact25) fact26) fact27) fact28) fact29) fact30) fact31)

end Go.Proofs.Qxb6001659a.fnCommandArgsRefusesOneBadElement
