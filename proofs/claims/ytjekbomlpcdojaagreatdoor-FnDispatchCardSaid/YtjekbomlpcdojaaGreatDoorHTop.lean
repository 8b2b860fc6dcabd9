/- For every input the law of dispatching a message to services returns true, and each argument reads behind the call as it read before; the listed variables (io.EOF, io.ErrUnexpectedEOF, bytes.ErrTooLarge) hold what the program's text lays (tied). -/
import Derived.Test.YtjekbomlpcdojaaGreatDoorH41
set_option linter.unusedVariables false
set_option linter.unusedSimpArgs false
set_option linter.unusedSectionVars false
namespace Go.Proofs.YtjekbomlpcdojaaGreatDoor
open Go Go.RowKit Go.ChangeShapes Go.WideShapes

/-- The given statement. -/
theorem dispatch_holds : Rows.FnDispatchCardSaid :=
  Claim7.holds_tied_plain_at .later [] [.sentinel, .sentinel, .sentinel] true _ true
    dispatch_row (fun _ h => by cases h) dispatch_wf (fun _ h => by cases h) fnDispatch_row_tie rfl ⟨rfl, rfl⟩ (by kernel_rfl) rfl
    (fun f fn hf hfn => by
      obtain rfl : f = 6 := Option.some.inj (dispatch_named.symm.trans hf) |>.symm
      obtain rfl : fn = Tryz.f6 := (Option.some.inj (Tryz.func6.symm.trans hfn)).symm
      exact ⟨dispatch_looks, fun j t ht => by
        rw [Tryz.params6] at ht
        have h4 : t = 23 ∨ t = 29 ∨ t = 4 ∨ t = 24 := by
          rcases j with _ | _ | _ | _ | j
          · exact .inl (by simpa using ht.symm)
          · exact .inr (.inl (by simpa using ht.symm))
          · exact .inr (.inr (.inl (by simpa using ht.symm)))
          · exact .inr (.inr (.inr (by simpa using ht.symm)))
          · simp at ht
        rcases h4 with rfl | rfl | rfl | rfl
        · exact (show Tryz.prog.wantsStandIn 23 = false by kernel_rfl)
        · exact (show Tryz.prog.wantsStandIn 29 = false by kernel_rfl)
        · exact (show Tryz.prog.wantsStandIn 4 = false by kernel_rfl)
        · exact (show Tryz.prog.wantsStandIn 24 = false by kernel_rfl)⟩)
    dispatch_goes
#print axioms dispatch_holds
end Go.Proofs.YtjekbomlpcdojaaGreatDoor
