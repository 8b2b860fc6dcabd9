/-
  DERIVED. GIVEN WITH THE SEED: THE CARDS: each row of YtdmegokbfakjpaaGreatDoorRows.lean that lists a variable, with what it lists TIED to the program's text (the seventh form; the later family's looks); each row that meets fmt, with fmt's text TOLD by the authors' own Lean function (tested against real Go, not proved from fmt's source: count such statements apart). THE CARD IS WHAT COUNTS. Prove the row's statement (the work); the ties are given (YtdmegokbfakjpaaGreatDoorTie.lean); close each card by the builder's one call (the guide's Derived/Test/ToyasCard.lean, 'card_holds'). Laid BY PROGRAM, IN A SANDBOX (cutbox-door.mjs). By AI agents, Wed Nov 11 2026. No macro, syntax, notation, axiom, sorry.
-/
import Derived.Test.YtdmegokbfakjpaaGreatDoorRows
import GoSem.ClaimSeven
namespace Go.Proofs.YtdmegokbfakjpaaGreatDoor
namespace Rows

/-- THE TIED CARD OF 'laws.FnSkipBinary'. -/
def fnSkipBinaryCard : Claim7 := { stood := { row := fnSkipBinaryRow, standIns := [], harness := (true, "848d308ae7633fbe5a1324c07c744cbf6cbf8df1d316de5742453db7979a9365"), looks := true }, kinds := [], alts := [], laidByText := true, laidKinds := [.sentinel, .sentinel, .sentinel], laidTests := true, laidLooks := .later }
def FnSkipBinaryCardSaid : Prop := Claim7.holds Tryz.pinned (.plain (OpenSpec.ofChange fnSkipBinarySpec)) fnSkipBinaryCard

/-- THE SECOND FORM's CARD OF 'laws.FnSkipBinary'. -/
def fnSkipBinaryUptoCard : Claim7 := { stood := { row := fnSkipBinaryUptoRow, standIns := [], harness := (true, "848d308ae7633fbe5a1324c07c744cbf6cbf8df1d316de5742453db7979a9365"), looks := true }, kinds := [], alts := [], laidByText := true, laidKinds := [.sentinel, .sentinel, .sentinel], laidTests := true, laidLooks := .later }
def FnSkipBinaryUptoCardSaid : Prop := Claim7.holds Tryz.pinned (.plain (OpenSpec.upto fnSkipBinarySpec)) fnSkipBinaryUptoCard
end Rows
end Go.Proofs.YtdmegokbfakjpaaGreatDoor
