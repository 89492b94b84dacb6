import Derived.Test.Qxb6612279aHead
namespace Go.Proofs.Qxb6612279a.fnInnerMakeRoomExactWhereFull
theorem k0 : (Rows.fnInnerMakeRoomExactWhereFullRow.wf (OpenSpec.ofChange Rows.fnInnerMakeRoomExactWhereFullSpec)) = true := by kernel_rfl
theorem k1 : (laidOutB Try.pinned.checked.prog) = true := by kernel_rfl
theorem k2 : (mapsRowed Try.pinned.checked.prog) = true := by kernel_rfl
theorem k3 : (Try.f9.params.all (Try.pinned.checked.prog.readableRec ·)) = true := by kernel_rfl
theorem k4 : (namedTie Try.pinned.checked.prog Rows.fnInnerMakeRoomExactWhereFullRow.named Rows.fnInnerMakeRoomExactWhereFullSpec.vars) = true := by kernel_rfl
theorem k5 : ((Rows.fnInnerMakeRoomExactWhereFullRow.stops == [])) = true := by kernel_rfl
theorem k6 : ((Try.pinned.checked.prog.stops == [])) = true := by kernel_rfl
theorem k7 : ((Rows.fnInnerMakeRoomExactWhereFullRow.knobs == [])) = true := by kernel_rfl
theorem k8 : ((Try.pinned.checked.prog.stopKnobs == [])) = true := by kernel_rfl
theorem k9 : ((Rows.fnInnerMakeRoomExactWhereFullRow.inPlace == Try.pinned.checked.prog.inPlace 9)) = true := by kernel_rfl
theorem k10 : ((Rows.fnInnerMakeRoomExactWhereFullRow.unfollowed == Try.pinned.checked.prog.unfollowed 9)) = true := by kernel_rfl
theorem k11 : ((Rows.fnInnerMakeRoomExactWhereFullRow.recurses == Try.pinned.checked.prog.recurses 9)) = true := by kernel_rfl
theorem k12 : ((Rows.fnInnerMakeRoomExactWhereFullRow.named == Try.pinned.checked.prog.varsNamed 9)) = true := by kernel_rfl
theorem k13 : ((Rows.fnInnerMakeRoomExactWhereFullRow.maps == (Try.f9.params.toList ++ Rows.fnInnerMakeRoomExactWhereFullSpec.plain.varTypes Try.pinned.checked.prog).any (Try.pinned.checked.prog.mapsRec ·))) = true := by kernel_rfl
theorem k14 : ((Rows.fnInnerMakeRoomExactWhereFullRow.ifaces == (Try.f9.params.toList ++ Rows.fnInnerMakeRoomExactWhereFullSpec.plain.varTypes Try.pinned.checked.prog).any (Try.pinned.checked.prog.ifacesRec ·))) = true := by kernel_rfl
theorem k15 : ((Rows.fnInnerMakeRoomExactWhereFullRow.mapsOut == Try.pinned.checked.prog.mapsAmong Try.f9.resultTypes.toList)) = true := by kernel_rfl
theorem k16 : ((Rows.fnInnerMakeRoomExactWhereFullRow.loops == (Try.f9.params.toList ++ Rows.fnInnerMakeRoomExactWhereFullSpec.plain.varTypes Try.pinned.checked.prog).any (Try.pinned.checked.prog.loopsFrom ·))) = true := by kernel_rfl
theorem k17 : ((Rows.fnInnerMakeRoomExactWhereFullRow.wideKeys == (Try.f9.params.toList ++ Rows.fnInnerMakeRoomExactWhereFullSpec.plain.varTypes Try.pinned.checked.prog ++ Try.f9.resultTypes.toList).any (Try.pinned.checked.prog.wideKeysFrom ·))) = true := by kernel_rfl
theorem k18 : (Rows.fnInnerMakeRoomExactWhereFullSpec.vars.all (Try.pinned.checked.prog.varReadable ·)) = true := by kernel_rfl
theorem k19 : (Try.f9.resultTypes.all (fun t => Try.pinned.checked.prog.readableRec t && decide (t < Try.pinned.checked.prog.types.size))) = true := by kernel_rfl
theorem k20 : ((Rows.fnInnerMakeRoomExactWhereFullRow.ifacesOut == Try.f9.resultTypes.toList.any (Try.pinned.checked.prog.ifacesRec ·))) = true := by kernel_rfl
theorem k21 : ((Rows.fnInnerMakeRoomExactWhereFullRow.loopsOut == Try.f9.resultTypes.toList.any (Try.pinned.checked.prog.loopsFrom ·))) = true := by kernel_rfl
theorem k22 : ((Rows.fnInnerMakeRoomExactWhereFullRow.plainKeys == Try.pinned.checked.prog.plainKeys)) = true := by kernel_rfl
theorem k23 : (Rows.fnInnerMakeRoomExactWhereFullRow.shortTexts.isNone) = true := by kernel_rfl
theorem k24 : (Try.pinned.checked.prog.stopsHeard) = true := by kernel_rfl
theorem k25 : (Try.pinned.checked.prog.mayEnter) = true := may_enter
theorem k26 : ((Rows.fnInnerMakeRoomExactWhereFullRow.lifted == Try.pinned.checked.prog.liftsFinal)) = true := by rw [lifts_final]; kernel_rfl
theorem k27 : ((Try.pinned.checked.prog.make == some Rows.fnInnerMakeRoomExactWhereFullRow.make)) = true := by rw [make_cut]; kernel_rfl
theorem k28 : ((Rows.fnInnerMakeRoomExactWhereFullRow.kinds == (if Rows.fnInnerMakeRoomExactWhereFullRow.domain.isEmpty then [] else Try.f9.params.toList.map fun t => match Try.pinned.checked.prog.underlying t with | some (.int k) => some k | _ => none))) = true := by kernel_rfl
theorem k29 : ((Rows.fnInnerMakeRoomExactWhereFullRow.pinned == Rows.fnInnerMakeRoomExactWhereFullRow.pinnedBy)) = true := by kernel_rfl
theorem k30 : ((Rows.fnInnerMakeRoomExactWhereFullRow.veiled == (Try.f9.params.toList ++ Rows.fnInnerMakeRoomExactWhereFullSpec.plain.varTypes Try.pinned.checked.prog ++ Try.f9.resultTypes.toList).any (Try.pinned.checked.prog.veiledRec ·))) = true := by kernel_rfl
theorem k31 : (Rows.fnInnerMakeRoomExactWhereFullRow.veiledFits Try.pinned.checked.prog Try.f9.params.toList (Try.f9.params.toList ++ Rows.fnInnerMakeRoomExactWhereFullSpec.plain.varTypes Try.pinned.checked.prog ++ Try.f9.resultTypes.toList)) = true := by kernel_rfl
theorem closed : joinedFacts Try.pinned.checked.prog 9 Try.f9 Rows.fnInnerMakeRoomExactWhereFullSpec Rows.fnInnerMakeRoomExactWhereFullRow = true := by
  unfold joinedFacts
  exact and_mk (and_mk (and_mk (and_mk (and_mk (and_mk (and_mk (and_mk (and_mk (and_mk (and_mk (and_mk (and_mk (and_mk (and_mk (and_mk (and_mk (and_mk (and_mk (and_mk (and_mk (and_mk (and_mk (and_mk (and_mk (and_mk (and_mk (and_mk (and_mk (and_mk (and_mk k0 k1) k2) k3) k4) k5) k6) k7) k8) k9) k10) k11) k12) k13) k14) k15) k16) k17) k18) k19) k20) k21) k22) k23) k24) k25) k26) k27) k28) k29) k30) k31
end Go.Proofs.Qxb6612279a.fnInnerMakeRoomExactWhereFull
