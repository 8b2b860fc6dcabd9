/- Part 34 of the proof: RwFaBin. -/
import Derived.Test.YtjekbomlpcdojaaGreatDoorCards
import Derived.SevenTiedAt
import Derived.KernelRfl
set_option linter.unusedVariables false
set_option linter.unusedSimpArgs false
set_option linter.unusedSectionVars false
set_option maxHeartbeats 16000000
namespace Go.Proofs.YtjekbomlpcdojaaGreatDoor
open Go Go.ChangeShapes Go.WideShapes
theorem readBinary_named : Tryz.pinned.checked.prog.funcNamed Rows.fnReadBinaryRow.func = some 3 := by kernel_rfl
theorem readBinary_f0 : (Rows.fnReadBinaryRow.wf (OpenSpec.ofChange Rows.fnReadBinarySpec) && laidOutB Tryz.pinned.checked.prog && mapsRowed Tryz.pinned.checked.prog && Tryz.f3.params.all (Tryz.pinned.checked.prog.readableRec ·) && namedTie Tryz.pinned.checked.prog Rows.fnReadBinaryRow.named Rows.fnReadBinarySpec.vars && (Rows.fnReadBinaryRow.stops == []) && (Tryz.pinned.checked.prog.stops == []) && (Rows.fnReadBinaryRow.knobs == []) && (Tryz.pinned.checked.prog.stopKnobs == [])) = true := by kernel_rfl
theorem readBinary_f1 : ((Rows.fnReadBinaryRow.inPlace == Tryz.pinned.checked.prog.inPlace 3) && (Rows.fnReadBinaryRow.unfollowed == Tryz.pinned.checked.prog.unfollowed 3)) = true := by kernel_rfl
theorem readBinary_f2 : ((Rows.fnReadBinaryRow.recurses == Tryz.pinned.checked.prog.recurses 3) && (Rows.fnReadBinaryRow.named == Tryz.pinned.checked.prog.varsNamed 3)) = true := by kernel_rfl
theorem readBinary_f3 : ((Rows.fnReadBinaryRow.maps == (Tryz.f3.params.toList ++ Rows.fnReadBinarySpec.plain.varTypes Tryz.pinned.checked.prog).any (Tryz.pinned.checked.prog.mapsRec ·)) && (Rows.fnReadBinaryRow.ifaces == (Tryz.f3.params.toList ++ Rows.fnReadBinarySpec.plain.varTypes Tryz.pinned.checked.prog).any (Tryz.pinned.checked.prog.ifacesRec ·)) && (Rows.fnReadBinaryRow.mapsOut == Tryz.pinned.checked.prog.mapsAmong Tryz.f3.resultTypes.toList) && (Rows.fnReadBinaryRow.loops == (Tryz.f3.params.toList ++ Rows.fnReadBinarySpec.plain.varTypes Tryz.pinned.checked.prog).any (Tryz.pinned.checked.prog.loopsFrom ·)) && (Rows.fnReadBinaryRow.wideKeys == (Tryz.f3.params.toList ++ Rows.fnReadBinarySpec.plain.varTypes Tryz.pinned.checked.prog ++ Tryz.f3.resultTypes.toList).any (Tryz.pinned.checked.prog.wideKeysFrom ·)) && Rows.fnReadBinarySpec.vars.all (Tryz.pinned.checked.prog.varReadable ·) && Tryz.f3.resultTypes.all (fun t => Tryz.pinned.checked.prog.readableRec t && decide (t < Tryz.pinned.checked.prog.types.size)) && (Rows.fnReadBinaryRow.ifacesOut == Tryz.f3.resultTypes.toList.any (Tryz.pinned.checked.prog.ifacesRec ·)) && (Rows.fnReadBinaryRow.loopsOut == Tryz.f3.resultTypes.toList.any (Tryz.pinned.checked.prog.loopsFrom ·))) = true := by kernel_rfl
theorem readBinary_f4 : ((Rows.fnReadBinaryRow.plainKeys == Tryz.pinned.checked.prog.plainKeys) && Rows.fnReadBinaryRow.shortTexts.isNone && Tryz.pinned.checked.prog.stopsHeard && Tryz.pinned.checked.prog.mayEnter) = true := by kernel_rfl
theorem readBinary_f5 : ((Rows.fnReadBinaryRow.lifted == Tryz.pinned.checked.prog.liftsFinal) && (Tryz.pinned.checked.prog.make == some Rows.fnReadBinaryRow.make) && (Rows.fnReadBinaryRow.kinds == (if Rows.fnReadBinaryRow.domain.isEmpty then [] else Tryz.f3.params.toList.map fun t => match Tryz.pinned.checked.prog.underlying t with | some (.int k) => some k | _ => none)) && (Rows.fnReadBinaryRow.pinned == Rows.fnReadBinaryRow.pinnedBy)) = true := by kernel_rfl
theorem readBinary_f6 : ((Rows.fnReadBinaryRow.veiled == (Tryz.f3.params.toList ++ Rows.fnReadBinarySpec.plain.varTypes Tryz.pinned.checked.prog ++ Tryz.f3.resultTypes.toList).any (Tryz.pinned.checked.prog.veiledRec ·)) && Rows.fnReadBinaryRow.veiledFits Tryz.pinned.checked.prog Tryz.f3.params.toList (Tryz.f3.params.toList ++ Rows.fnReadBinarySpec.plain.varTypes Tryz.pinned.checked.prog ++ Tryz.f3.resultTypes.toList)) = true := by kernel_rfl
set_option maxRecDepth 100000 in
theorem readBinary_closed : joinedFacts Tryz.pinned.checked.prog 3 Tryz.f3 Rows.fnReadBinarySpec Rows.fnReadBinaryRow = true := by
 have h0 := readBinary_f0
 have h1 := readBinary_f1
 have h2 := readBinary_f2
 have h3 := readBinary_f3
 have h4 := readBinary_f4
 have h5 := readBinary_f5
 have h6 := readBinary_f6
 simp only [Bool.and_eq_true] at h0 h1 h2 h3 h4 h5 h6
 unfold joinedFacts
 simp only [Bool.and_eq_true]
 simp only [h0, h1, h2, h3, h4, h5, h6, and_self]
 have hk := h5.1.2
 clear h0 h1 h2 h3 h4 h5 h6
 refine ⟨⟨⟨⟨trivial, ?_⟩, trivial⟩, trivial⟩, trivial⟩
 exact hk
theorem readBinary_looks : true = Tryz.pinned.checked.prog.looks [] := by kernel_rfl
theorem readBinary_goes : false = Rows.fnReadBinaryRow.goesBy Tryz.pinned.checked.prog := by kernel_rfl
theorem readBinary_wf : Rows.fnReadBinaryRow.wfByText (OpenSpec.ofChange Rows.fnReadBinarySpec) = true := by kernel_rfl
end Go.Proofs.YtjekbomlpcdojaaGreatDoor
