/- For every input the law of reading steps by the compact protocol returns true, and each argument reads behind the call as it read before; the listed variables (io.EOF, io.ErrUnexpectedEOF, bytes.ErrTooLarge) hold what the program's text lays (tied). -/
import Derived.Test.YtjekbomlpcdojaaGreatDoorK45
set_option linter.unusedVariables false
set_option linter.unusedSimpArgs false
set_option linter.unusedSectionVars false
namespace Go.Proofs.YtjekbomlpcdojaaGreatDoor
open Go Go.RowKit Go.ChangeShapes Go.WideShapes

/-- The given statement. -/
theorem readCompact_holds : Rows.FnReadCompactCardSaid :=
  Claim7.holds_tied_plain_at .later [] [.sentinel, .sentinel, .sentinel] true _ true
    readCompact_row (fun _ h => by cases h) readCompact_wf (fun _ h => by cases h) fnReadCompact_row_tie rfl ⟨rfl, rfl⟩ (by kernel_rfl) rfl
    (fun f fn hf hfn => by
      obtain rfl : f = 4 := Option.some.inj (readCompact_named.symm.trans hf) |>.symm
      obtain rfl : fn = Tryz.f4 := (Option.some.inj (Tryz.func4.symm.trans hfn)).symm
      exact ⟨readCompact_looks, fun j t ht => by
        rw [Tryz.params4] at ht
        have h3 : t = 23 ∨ t = 24 ∨ t = 25 := by
          rcases j with _ | _ | _ | j
          · exact .inl (by simpa using ht.symm)
          · exact .inr (.inl (by simpa using ht.symm))
          · exact .inr (.inr (by simpa using ht.symm))
          · simp at ht
        rcases h3 with rfl | rfl | rfl
        · exact (show Tryz.prog.wantsStandIn 23 = false by kernel_rfl)
        · exact (show Tryz.prog.wantsStandIn 24 = false by kernel_rfl)
        · exact (show Tryz.prog.wantsStandIn 25 = false by kernel_rfl)⟩)
    readCompact_goes
#print axioms readCompact_holds
end Go.Proofs.YtjekbomlpcdojaaGreatDoor
