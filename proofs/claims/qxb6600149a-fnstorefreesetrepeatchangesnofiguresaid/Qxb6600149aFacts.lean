import Derived.Test.Qxb6600149aHead
namespace Go.Proofs.Qxb6600149a.fnStoreFreeSetRepeatChangesNoFigure
theorem k0 : (Rows.fnStoreFreeSetRepeatChangesNoFigureRow.wf (OpenSpec.ofChange Rows.fnStoreFreeSetRepeatChangesNoFigureSpec)) = true := by kernel_rfl
theorem k1 : (laidOutB Try.pinned.checked.prog) = true := by kernel_rfl
theorem k2 : (mapsRowed Try.pinned.checked.prog) = true := by kernel_rfl
theorem k3 : (Try.f8.params.all (Try.pinned.checked.prog.readableRec ·)) = true := by kernel_rfl
theorem k4 : (namedTie Try.pinned.checked.prog Rows.fnStoreFreeSetRepeatChangesNoFigureRow.named Rows.fnStoreFreeSetRepeatChangesNoFigureSpec.vars) = true := by kernel_rfl
theorem k5 : ((Rows.fnStoreFreeSetRepeatChangesNoFigureRow.stops == [])) = true := by kernel_rfl
theorem k6 : ((Try.pinned.checked.prog.stops == [])) = true := by kernel_rfl
theorem k7 : ((Rows.fnStoreFreeSetRepeatChangesNoFigureRow.knobs == [])) = true := by kernel_rfl
theorem k8 : ((Try.pinned.checked.prog.stopKnobs == [])) = true := by kernel_rfl
theorem k9 : ((Rows.fnStoreFreeSetRepeatChangesNoFigureRow.inPlace == Try.pinned.checked.prog.inPlace 8)) = true := by kernel_rfl
theorem k10 : ((Rows.fnStoreFreeSetRepeatChangesNoFigureRow.unfollowed == Try.pinned.checked.prog.unfollowed 8)) = true := by kernel_rfl
theorem k11 : ((Rows.fnStoreFreeSetRepeatChangesNoFigureRow.recurses == Try.pinned.checked.prog.recurses 8)) = true := by kernel_rfl
theorem k12 : ((Rows.fnStoreFreeSetRepeatChangesNoFigureRow.named == Try.pinned.checked.prog.varsNamed 8)) = true := by kernel_rfl
theorem k13 : ((Rows.fnStoreFreeSetRepeatChangesNoFigureRow.maps == (Try.f8.params.toList ++ Rows.fnStoreFreeSetRepeatChangesNoFigureSpec.plain.varTypes Try.pinned.checked.prog).any (Try.pinned.checked.prog.mapsRec ·))) = true := by kernel_rfl
theorem k14 : ((Rows.fnStoreFreeSetRepeatChangesNoFigureRow.ifaces == (Try.f8.params.toList ++ Rows.fnStoreFreeSetRepeatChangesNoFigureSpec.plain.varTypes Try.pinned.checked.prog).any (Try.pinned.checked.prog.ifacesRec ·))) = true := by kernel_rfl
theorem k15 : ((Rows.fnStoreFreeSetRepeatChangesNoFigureRow.mapsOut == Try.pinned.checked.prog.mapsAmong Try.f8.resultTypes.toList)) = true := by kernel_rfl
theorem k16 : ((Rows.fnStoreFreeSetRepeatChangesNoFigureRow.loops == (Try.f8.params.toList ++ Rows.fnStoreFreeSetRepeatChangesNoFigureSpec.plain.varTypes Try.pinned.checked.prog).any (Try.pinned.checked.prog.loopsFrom ·))) = true := by kernel_rfl
theorem k17 : ((Rows.fnStoreFreeSetRepeatChangesNoFigureRow.wideKeys == (Try.f8.params.toList ++ Rows.fnStoreFreeSetRepeatChangesNoFigureSpec.plain.varTypes Try.pinned.checked.prog ++ Try.f8.resultTypes.toList).any (Try.pinned.checked.prog.wideKeysFrom ·))) = true := by kernel_rfl
theorem k18 : (Rows.fnStoreFreeSetRepeatChangesNoFigureSpec.vars.all (Try.pinned.checked.prog.varReadable ·)) = true := by kernel_rfl
theorem k19 : (Try.f8.resultTypes.all (fun t => Try.pinned.checked.prog.readableRec t && decide (t < Try.pinned.checked.prog.types.size))) = true := by kernel_rfl
theorem k20 : ((Rows.fnStoreFreeSetRepeatChangesNoFigureRow.ifacesOut == Try.f8.resultTypes.toList.any (Try.pinned.checked.prog.ifacesRec ·))) = true := by kernel_rfl
theorem k21 : ((Rows.fnStoreFreeSetRepeatChangesNoFigureRow.loopsOut == Try.f8.resultTypes.toList.any (Try.pinned.checked.prog.loopsFrom ·))) = true := by kernel_rfl
theorem k22 : ((Rows.fnStoreFreeSetRepeatChangesNoFigureRow.plainKeys == Try.pinned.checked.prog.plainKeys)) = true := by kernel_rfl
theorem k23 : (Rows.fnStoreFreeSetRepeatChangesNoFigureRow.shortTexts.isNone) = true := by kernel_rfl
theorem k24 : (Try.pinned.checked.prog.stopsHeard) = true := by kernel_rfl
theorem k25 : (Try.pinned.checked.prog.mayEnter) = true := may_enter
theorem k26 : ((Rows.fnStoreFreeSetRepeatChangesNoFigureRow.lifted == Try.pinned.checked.prog.liftsFinal)) = true := by rw [lifts_final]; kernel_rfl
theorem k27 : ((Try.pinned.checked.prog.make == some Rows.fnStoreFreeSetRepeatChangesNoFigureRow.make)) = true := by rw [make_cut]; kernel_rfl
theorem k28 : ((Rows.fnStoreFreeSetRepeatChangesNoFigureRow.kinds == (if Rows.fnStoreFreeSetRepeatChangesNoFigureRow.domain.isEmpty then [] else Try.f8.params.toList.map fun t => match Try.pinned.checked.prog.underlying t with | some (.int k) => some k | _ => none))) = true := by kernel_rfl
theorem k29 : ((Rows.fnStoreFreeSetRepeatChangesNoFigureRow.pinned == Rows.fnStoreFreeSetRepeatChangesNoFigureRow.pinnedBy)) = true := by kernel_rfl
theorem k30 : ((Rows.fnStoreFreeSetRepeatChangesNoFigureRow.veiled == (Try.f8.params.toList ++ Rows.fnStoreFreeSetRepeatChangesNoFigureSpec.plain.varTypes Try.pinned.checked.prog ++ Try.f8.resultTypes.toList).any (Try.pinned.checked.prog.veiledRec ·))) = true := by kernel_rfl
theorem k31 : (Rows.fnStoreFreeSetRepeatChangesNoFigureRow.veiledFits Try.pinned.checked.prog Try.f8.params.toList (Try.f8.params.toList ++ Rows.fnStoreFreeSetRepeatChangesNoFigureSpec.plain.varTypes Try.pinned.checked.prog ++ Try.f8.resultTypes.toList)) = true := by kernel_rfl
theorem closed : joinedFacts Try.pinned.checked.prog 8 Try.f8 Rows.fnStoreFreeSetRepeatChangesNoFigureSpec Rows.fnStoreFreeSetRepeatChangesNoFigureRow = true := by
  unfold joinedFacts
  exact and_mk (and_mk (and_mk (and_mk (and_mk (and_mk (and_mk (and_mk (and_mk (and_mk (and_mk (and_mk (and_mk (and_mk (and_mk (and_mk (and_mk (and_mk (and_mk (and_mk (and_mk (and_mk (and_mk (and_mk (and_mk (and_mk (and_mk (and_mk (and_mk (and_mk (and_mk k0 k1) k2) k3) k4) k5) k6) k7) k8) k9) k10) k11) k12) k13) k14) k15) k16) k17) k18) k19) k20) k21) k22) k23) k24) k25) k26) k27) k28) k29) k30) k31
end Go.Proofs.Qxb6600149a.fnStoreFreeSetRepeatChangesNoFigure
