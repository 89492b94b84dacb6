import Derived.Test.Qxb6612279aHead
namespace Go.Proofs.Qxb6612279a.fnBufferAgreesWithMakeRoomOnceFull
theorem k0 : (Rows.fnBufferAgreesWithMakeRoomOnceFullRow.wf (OpenSpec.ofChange Rows.fnBufferAgreesWithMakeRoomOnceFullSpec)) = true := by kernel_rfl
theorem k1 : (laidOutB Try.pinned.checked.prog) = true := by kernel_rfl
theorem k2 : (mapsRowed Try.pinned.checked.prog) = true := by kernel_rfl
theorem k3 : (Try.f6.params.all (Try.pinned.checked.prog.readableRec ·)) = true := by kernel_rfl
theorem k4 : (namedTie Try.pinned.checked.prog Rows.fnBufferAgreesWithMakeRoomOnceFullRow.named Rows.fnBufferAgreesWithMakeRoomOnceFullSpec.vars) = true := by kernel_rfl
theorem k5 : ((Rows.fnBufferAgreesWithMakeRoomOnceFullRow.stops == [])) = true := by kernel_rfl
theorem k6 : ((Try.pinned.checked.prog.stops == [])) = true := by kernel_rfl
theorem k7 : ((Rows.fnBufferAgreesWithMakeRoomOnceFullRow.knobs == [])) = true := by kernel_rfl
theorem k8 : ((Try.pinned.checked.prog.stopKnobs == [])) = true := by kernel_rfl
theorem k9 : ((Rows.fnBufferAgreesWithMakeRoomOnceFullRow.inPlace == Try.pinned.checked.prog.inPlace 6)) = true := by kernel_rfl
theorem k10 : ((Rows.fnBufferAgreesWithMakeRoomOnceFullRow.unfollowed == Try.pinned.checked.prog.unfollowed 6)) = true := by kernel_rfl
theorem k11 : ((Rows.fnBufferAgreesWithMakeRoomOnceFullRow.recurses == Try.pinned.checked.prog.recurses 6)) = true := by kernel_rfl
theorem k12 : ((Rows.fnBufferAgreesWithMakeRoomOnceFullRow.named == Try.pinned.checked.prog.varsNamed 6)) = true := by kernel_rfl
theorem k13 : ((Rows.fnBufferAgreesWithMakeRoomOnceFullRow.maps == (Try.f6.params.toList ++ Rows.fnBufferAgreesWithMakeRoomOnceFullSpec.plain.varTypes Try.pinned.checked.prog).any (Try.pinned.checked.prog.mapsRec ·))) = true := by kernel_rfl
theorem k14 : ((Rows.fnBufferAgreesWithMakeRoomOnceFullRow.ifaces == (Try.f6.params.toList ++ Rows.fnBufferAgreesWithMakeRoomOnceFullSpec.plain.varTypes Try.pinned.checked.prog).any (Try.pinned.checked.prog.ifacesRec ·))) = true := by kernel_rfl
theorem k15 : ((Rows.fnBufferAgreesWithMakeRoomOnceFullRow.mapsOut == Try.pinned.checked.prog.mapsAmong Try.f6.resultTypes.toList)) = true := by kernel_rfl
theorem k16 : ((Rows.fnBufferAgreesWithMakeRoomOnceFullRow.loops == (Try.f6.params.toList ++ Rows.fnBufferAgreesWithMakeRoomOnceFullSpec.plain.varTypes Try.pinned.checked.prog).any (Try.pinned.checked.prog.loopsFrom ·))) = true := by kernel_rfl
theorem k17 : ((Rows.fnBufferAgreesWithMakeRoomOnceFullRow.wideKeys == (Try.f6.params.toList ++ Rows.fnBufferAgreesWithMakeRoomOnceFullSpec.plain.varTypes Try.pinned.checked.prog ++ Try.f6.resultTypes.toList).any (Try.pinned.checked.prog.wideKeysFrom ·))) = true := by kernel_rfl
theorem k18 : (Rows.fnBufferAgreesWithMakeRoomOnceFullSpec.vars.all (Try.pinned.checked.prog.varReadable ·)) = true := by kernel_rfl
theorem k19 : (Try.f6.resultTypes.all (fun t => Try.pinned.checked.prog.readableRec t && decide (t < Try.pinned.checked.prog.types.size))) = true := by kernel_rfl
theorem k20 : ((Rows.fnBufferAgreesWithMakeRoomOnceFullRow.ifacesOut == Try.f6.resultTypes.toList.any (Try.pinned.checked.prog.ifacesRec ·))) = true := by kernel_rfl
theorem k21 : ((Rows.fnBufferAgreesWithMakeRoomOnceFullRow.loopsOut == Try.f6.resultTypes.toList.any (Try.pinned.checked.prog.loopsFrom ·))) = true := by kernel_rfl
theorem k22 : ((Rows.fnBufferAgreesWithMakeRoomOnceFullRow.plainKeys == Try.pinned.checked.prog.plainKeys)) = true := by kernel_rfl
theorem k23 : (Rows.fnBufferAgreesWithMakeRoomOnceFullRow.shortTexts.isNone) = true := by kernel_rfl
theorem k24 : (Try.pinned.checked.prog.stopsHeard) = true := by kernel_rfl
theorem k25 : (Try.pinned.checked.prog.mayEnter) = true := may_enter
theorem k26 : ((Rows.fnBufferAgreesWithMakeRoomOnceFullRow.lifted == Try.pinned.checked.prog.liftsFinal)) = true := by rw [lifts_final]; kernel_rfl
theorem k27 : ((Try.pinned.checked.prog.make == some Rows.fnBufferAgreesWithMakeRoomOnceFullRow.make)) = true := by rw [make_cut]; kernel_rfl
theorem k28 : ((Rows.fnBufferAgreesWithMakeRoomOnceFullRow.kinds == (if Rows.fnBufferAgreesWithMakeRoomOnceFullRow.domain.isEmpty then [] else Try.f6.params.toList.map fun t => match Try.pinned.checked.prog.underlying t with | some (.int k) => some k | _ => none))) = true := by kernel_rfl
theorem k29 : ((Rows.fnBufferAgreesWithMakeRoomOnceFullRow.pinned == Rows.fnBufferAgreesWithMakeRoomOnceFullRow.pinnedBy)) = true := by kernel_rfl
theorem k30 : ((Rows.fnBufferAgreesWithMakeRoomOnceFullRow.veiled == (Try.f6.params.toList ++ Rows.fnBufferAgreesWithMakeRoomOnceFullSpec.plain.varTypes Try.pinned.checked.prog ++ Try.f6.resultTypes.toList).any (Try.pinned.checked.prog.veiledRec ·))) = true := by kernel_rfl
theorem k31 : (Rows.fnBufferAgreesWithMakeRoomOnceFullRow.veiledFits Try.pinned.checked.prog Try.f6.params.toList (Try.f6.params.toList ++ Rows.fnBufferAgreesWithMakeRoomOnceFullSpec.plain.varTypes Try.pinned.checked.prog ++ Try.f6.resultTypes.toList)) = true := by kernel_rfl
theorem closed : joinedFacts Try.pinned.checked.prog 6 Try.f6 Rows.fnBufferAgreesWithMakeRoomOnceFullSpec Rows.fnBufferAgreesWithMakeRoomOnceFullRow = true := by
  unfold joinedFacts
  exact and_mk (and_mk (and_mk (and_mk (and_mk (and_mk (and_mk (and_mk (and_mk (and_mk (and_mk (and_mk (and_mk (and_mk (and_mk (and_mk (and_mk (and_mk (and_mk (and_mk (and_mk (and_mk (and_mk (and_mk (and_mk (and_mk (and_mk (and_mk (and_mk (and_mk (and_mk k0 k1) k2) k3) k4) k5) k6) k7) k8) k9) k10) k11) k12) k13) k14) k15) k16) k17) k18) k19) k20) k21) k22) k23) k24) k25) k26) k27) k28) k29) k30) k31
end Go.Proofs.Qxb6612279a.fnBufferAgreesWithMakeRoomOnceFull
