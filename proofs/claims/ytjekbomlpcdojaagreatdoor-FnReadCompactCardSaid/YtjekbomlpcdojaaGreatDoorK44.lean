/- Part 44 of the proof: RwFaCmp. -/
import Derived.Test.YtjekbomlpcdojaaGreatDoorCards
import Derived.SevenTiedAt
import Derived.KernelRfl
set_option linter.unusedVariables false
set_option linter.unusedSimpArgs false
set_option linter.unusedSectionVars false
set_option maxHeartbeats 16000000
namespace Go.Proofs.YtjekbomlpcdojaaGreatDoor
open Go Go.ChangeShapes Go.WideShapes
theorem readCompact_named : Tryz.pinned.checked.prog.funcNamed Rows.fnReadCompactRow.func = some 4 := by kernel_rfl
theorem readCompact_f0 : (Rows.fnReadCompactRow.wf (OpenSpec.ofChange Rows.fnReadCompactSpec) && laidOutB Tryz.pinned.checked.prog && mapsRowed Tryz.pinned.checked.prog && Tryz.f4.params.all (Tryz.pinned.checked.prog.readableRec ·) && namedTie Tryz.pinned.checked.prog Rows.fnReadCompactRow.named Rows.fnReadCompactSpec.vars && (Rows.fnReadCompactRow.stops == []) && (Tryz.pinned.checked.prog.stops == []) && (Rows.fnReadCompactRow.knobs == []) && (Tryz.pinned.checked.prog.stopKnobs == [])) = true := by kernel_rfl
theorem readCompact_f1 : ((Rows.fnReadCompactRow.inPlace == Tryz.pinned.checked.prog.inPlace 4) && (Rows.fnReadCompactRow.unfollowed == Tryz.pinned.checked.prog.unfollowed 4)) = true := by kernel_rfl
theorem readCompact_f2 : ((Rows.fnReadCompactRow.recurses == Tryz.pinned.checked.prog.recurses 4) && (Rows.fnReadCompactRow.named == Tryz.pinned.checked.prog.varsNamed 4)) = true := by kernel_rfl
theorem readCompact_f3 : ((Rows.fnReadCompactRow.maps == (Tryz.f4.params.toList ++ Rows.fnReadCompactSpec.plain.varTypes Tryz.pinned.checked.prog).any (Tryz.pinned.checked.prog.mapsRec ·)) && (Rows.fnReadCompactRow.ifaces == (Tryz.f4.params.toList ++ Rows.fnReadCompactSpec.plain.varTypes Tryz.pinned.checked.prog).any (Tryz.pinned.checked.prog.ifacesRec ·)) && (Rows.fnReadCompactRow.mapsOut == Tryz.pinned.checked.prog.mapsAmong Tryz.f4.resultTypes.toList) && (Rows.fnReadCompactRow.loops == (Tryz.f4.params.toList ++ Rows.fnReadCompactSpec.plain.varTypes Tryz.pinned.checked.prog).any (Tryz.pinned.checked.prog.loopsFrom ·)) && (Rows.fnReadCompactRow.wideKeys == (Tryz.f4.params.toList ++ Rows.fnReadCompactSpec.plain.varTypes Tryz.pinned.checked.prog ++ Tryz.f4.resultTypes.toList).any (Tryz.pinned.checked.prog.wideKeysFrom ·)) && Rows.fnReadCompactSpec.vars.all (Tryz.pinned.checked.prog.varReadable ·) && Tryz.f4.resultTypes.all (fun t => Tryz.pinned.checked.prog.readableRec t && decide (t < Tryz.pinned.checked.prog.types.size)) && (Rows.fnReadCompactRow.ifacesOut == Tryz.f4.resultTypes.toList.any (Tryz.pinned.checked.prog.ifacesRec ·)) && (Rows.fnReadCompactRow.loopsOut == Tryz.f4.resultTypes.toList.any (Tryz.pinned.checked.prog.loopsFrom ·))) = true := by kernel_rfl
theorem readCompact_f4 : ((Rows.fnReadCompactRow.plainKeys == Tryz.pinned.checked.prog.plainKeys) && Rows.fnReadCompactRow.shortTexts.isNone && Tryz.pinned.checked.prog.stopsHeard && Tryz.pinned.checked.prog.mayEnter) = true := by kernel_rfl
theorem readCompact_f5 : ((Rows.fnReadCompactRow.lifted == Tryz.pinned.checked.prog.liftsFinal) && (Tryz.pinned.checked.prog.make == some Rows.fnReadCompactRow.make) && (Rows.fnReadCompactRow.kinds == (if Rows.fnReadCompactRow.domain.isEmpty then [] else Tryz.f4.params.toList.map fun t => match Tryz.pinned.checked.prog.underlying t with | some (.int k) => some k | _ => none)) && (Rows.fnReadCompactRow.pinned == Rows.fnReadCompactRow.pinnedBy)) = true := by kernel_rfl
theorem readCompact_f6 : ((Rows.fnReadCompactRow.veiled == (Tryz.f4.params.toList ++ Rows.fnReadCompactSpec.plain.varTypes Tryz.pinned.checked.prog ++ Tryz.f4.resultTypes.toList).any (Tryz.pinned.checked.prog.veiledRec ·)) && Rows.fnReadCompactRow.veiledFits Tryz.pinned.checked.prog Tryz.f4.params.toList (Tryz.f4.params.toList ++ Rows.fnReadCompactSpec.plain.varTypes Tryz.pinned.checked.prog ++ Tryz.f4.resultTypes.toList)) = true := by kernel_rfl
set_option maxRecDepth 100000 in
theorem readCompact_closed : joinedFacts Tryz.pinned.checked.prog 4 Tryz.f4 Rows.fnReadCompactSpec Rows.fnReadCompactRow = true := by
 have h0 := readCompact_f0
 have h1 := readCompact_f1
 have h2 := readCompact_f2
 have h3 := readCompact_f3
 have h4 := readCompact_f4
 have h5 := readCompact_f5
 have h6 := readCompact_f6
 simp only [Bool.and_eq_true] at h0 h1 h2 h3 h4 h5 h6
 unfold joinedFacts
 simp only [Bool.and_eq_true]
 simp only [h0, h1, h2, h3, h4, h5, h6, and_self]
 have hk := h5.1.2
 clear h0 h1 h2 h3 h4 h5 h6
 refine ⟨⟨⟨⟨trivial, ?_⟩, trivial⟩, trivial⟩, trivial⟩
 exact hk
theorem readCompact_looks : true = Tryz.pinned.checked.prog.looks [] := by kernel_rfl
theorem readCompact_goes : false = Rows.fnReadCompactRow.goesBy Tryz.pinned.checked.prog := by kernel_rfl
theorem readCompact_wf : Rows.fnReadCompactRow.wfByText (OpenSpec.ofChange Rows.fnReadCompactSpec) = true := by kernel_rfl
end Go.Proofs.YtjekbomlpcdojaaGreatDoor
