/- Part 40 of the proof: RwFaD. -/
import Derived.Test.YtjekbomlpcdojaaGreatDoorCards
import Derived.SevenTiedAt
import Derived.KernelRfl
set_option linter.unusedVariables false
set_option linter.unusedSimpArgs false
set_option linter.unusedSectionVars false
set_option maxHeartbeats 16000000
namespace Go.Proofs.YtjekbomlpcdojaaGreatDoor
open Go Go.ChangeShapes Go.WideShapes
theorem dispatch_named : Tryz.pinned.checked.prog.funcNamed Rows.fnDispatchRow.func = some 6 := by kernel_rfl
theorem dispatch_f0 : (Rows.fnDispatchRow.wf (OpenSpec.ofChange Rows.fnDispatchSpec) && laidOutB Tryz.pinned.checked.prog && mapsRowed Tryz.pinned.checked.prog && Tryz.f6.params.all (Tryz.pinned.checked.prog.readableRec ·) && namedTie Tryz.pinned.checked.prog Rows.fnDispatchRow.named Rows.fnDispatchSpec.vars && (Rows.fnDispatchRow.stops == []) && (Tryz.pinned.checked.prog.stops == []) && (Rows.fnDispatchRow.knobs == []) && (Tryz.pinned.checked.prog.stopKnobs == [])) = true := by kernel_rfl
theorem dispatch_f1 : ((Rows.fnDispatchRow.inPlace == Tryz.pinned.checked.prog.inPlace 6) && (Rows.fnDispatchRow.unfollowed == Tryz.pinned.checked.prog.unfollowed 6)) = true := by kernel_rfl
theorem dispatch_f2 : ((Rows.fnDispatchRow.recurses == Tryz.pinned.checked.prog.recurses 6) && (Rows.fnDispatchRow.named == Tryz.pinned.checked.prog.varsNamed 6)) = true := by kernel_rfl
theorem dispatch_f3 : ((Rows.fnDispatchRow.maps == (Tryz.f6.params.toList ++ Rows.fnDispatchSpec.plain.varTypes Tryz.pinned.checked.prog).any (Tryz.pinned.checked.prog.mapsRec ·)) && (Rows.fnDispatchRow.ifaces == (Tryz.f6.params.toList ++ Rows.fnDispatchSpec.plain.varTypes Tryz.pinned.checked.prog).any (Tryz.pinned.checked.prog.ifacesRec ·)) && (Rows.fnDispatchRow.mapsOut == Tryz.pinned.checked.prog.mapsAmong Tryz.f6.resultTypes.toList) && (Rows.fnDispatchRow.loops == (Tryz.f6.params.toList ++ Rows.fnDispatchSpec.plain.varTypes Tryz.pinned.checked.prog).any (Tryz.pinned.checked.prog.loopsFrom ·)) && (Rows.fnDispatchRow.wideKeys == (Tryz.f6.params.toList ++ Rows.fnDispatchSpec.plain.varTypes Tryz.pinned.checked.prog ++ Tryz.f6.resultTypes.toList).any (Tryz.pinned.checked.prog.wideKeysFrom ·)) && Rows.fnDispatchSpec.vars.all (Tryz.pinned.checked.prog.varReadable ·) && Tryz.f6.resultTypes.all (fun t => Tryz.pinned.checked.prog.readableRec t && decide (t < Tryz.pinned.checked.prog.types.size)) && (Rows.fnDispatchRow.ifacesOut == Tryz.f6.resultTypes.toList.any (Tryz.pinned.checked.prog.ifacesRec ·)) && (Rows.fnDispatchRow.loopsOut == Tryz.f6.resultTypes.toList.any (Tryz.pinned.checked.prog.loopsFrom ·))) = true := by kernel_rfl
theorem dispatch_f4 : ((Rows.fnDispatchRow.plainKeys == Tryz.pinned.checked.prog.plainKeys) && Rows.fnDispatchRow.shortTexts.isNone && Tryz.pinned.checked.prog.stopsHeard && Tryz.pinned.checked.prog.mayEnter) = true := by kernel_rfl
theorem dispatch_f5 : ((Rows.fnDispatchRow.lifted == Tryz.pinned.checked.prog.liftsFinal) && (Tryz.pinned.checked.prog.make == some Rows.fnDispatchRow.make) && (Rows.fnDispatchRow.kinds == (if Rows.fnDispatchRow.domain.isEmpty then [] else Tryz.f6.params.toList.map fun t => match Tryz.pinned.checked.prog.underlying t with | some (.int k) => some k | _ => none)) && (Rows.fnDispatchRow.pinned == Rows.fnDispatchRow.pinnedBy)) = true := by kernel_rfl
theorem dispatch_f6 : ((Rows.fnDispatchRow.veiled == (Tryz.f6.params.toList ++ Rows.fnDispatchSpec.plain.varTypes Tryz.pinned.checked.prog ++ Tryz.f6.resultTypes.toList).any (Tryz.pinned.checked.prog.veiledRec ·)) && Rows.fnDispatchRow.veiledFits Tryz.pinned.checked.prog Tryz.f6.params.toList (Tryz.f6.params.toList ++ Rows.fnDispatchSpec.plain.varTypes Tryz.pinned.checked.prog ++ Tryz.f6.resultTypes.toList)) = true := by kernel_rfl
set_option maxRecDepth 100000 in
theorem dispatch_closed : joinedFacts Tryz.pinned.checked.prog 6 Tryz.f6 Rows.fnDispatchSpec Rows.fnDispatchRow = true := by
 have h0 := dispatch_f0
 have h1 := dispatch_f1
 have h2 := dispatch_f2
 have h3 := dispatch_f3
 have h4 := dispatch_f4
 have h5 := dispatch_f5
 have h6 := dispatch_f6
 simp only [Bool.and_eq_true] at h0 h1 h2 h3 h4 h5 h6
 unfold joinedFacts
 simp only [Bool.and_eq_true]
 simp only [h0, h1, h2, h3, h4, h5, h6, and_self]
 have hk := h5.1.2
 clear h0 h1 h2 h3 h4 h5 h6
 refine ⟨⟨⟨⟨trivial, ?_⟩, trivial⟩, trivial⟩, trivial⟩
 exact hk
theorem dispatch_looks : true = Tryz.pinned.checked.prog.looks [] := by kernel_rfl
theorem dispatch_goes : false = Rows.fnDispatchRow.goesBy Tryz.pinned.checked.prog := by kernel_rfl
theorem dispatch_wf : Rows.fnDispatchRow.wfByText (OpenSpec.ofChange Rows.fnDispatchSpec) = true := by kernel_rfl
end Go.Proofs.YtjekbomlpcdojaaGreatDoor
