/-
  DERIVED. GIVEN WITH THE SEED: THE CARDS: each row of YtpfifpgbnhdjnaaGreatDoorRows.lean that lists a variable, with what it lists TIED to the program's text (the seventh form; the later family's looks); each row that meets fmt, with fmt's text TOLD by the authors' own Lean function (tested against real Go, not proved from fmt's source: count such statements apart). THE CARD IS WHAT COUNTS. Prove the row's statement (the work); the ties are given (YtpfifpgbnhdjnaaGreatDoorTie.lean); close each card by the builder's one call (the guide's Derived/Test/ToyasCard.lean, 'card_holds'). Laid BY PROGRAM, IN A SANDBOX (cutbox-door.mjs). By AI agents, Wed Nov 11 2026. No macro, syntax, notation, axiom, sorry.
-/
import Derived.Test.YtpfifpgbnhdjnaaGreatDoorRows
import GoSem.ClaimSeven
namespace Go.Proofs.YtpfifpgbnhdjnaaGreatDoor
namespace Rows

/-- THE TIED CARD OF 'laws.FnGetBinary'. -/
def fnGetBinaryCard : Claim7 := { stood := { row := fnGetBinaryRow, standIns := [], harness := (true, "c79d9413b195be00494508832bcb305e5d803e5716419807321bba95d7483b0c"), looks := true }, kinds := [], alts := [], laidByText := true, laidKinds := [.sentinel, .sentinel, .sentinel], laidTests := true, laidLooks := .later }
def FnGetBinaryCardSaid : Prop := Claim7.holds Tryz.pinned (.plain (OpenSpec.ofChange fnGetBinarySpec)) fnGetBinaryCard

/-- THE TIED CARD OF 'laws.FnGetCompact'. -/
def fnGetCompactCard : Claim7 := { stood := { row := fnGetCompactRow, standIns := [], harness := (true, "c79d9413b195be00494508832bcb305e5d803e5716419807321bba95d7483b0c"), looks := true }, kinds := [], alts := [], laidByText := true, laidKinds := [.sentinel, .sentinel, .sentinel], laidTests := true, laidLooks := .later }
def FnGetCompactCardSaid : Prop := Claim7.holds Tryz.pinned (.plain (OpenSpec.ofChange fnGetCompactSpec)) fnGetCompactCard

/-- THE TIED CARD OF 'laws.FnSkipCompact'. -/
def fnSkipCompactCard : Claim7 := { stood := { row := fnSkipCompactRow, standIns := [], harness := (true, "c79d9413b195be00494508832bcb305e5d803e5716419807321bba95d7483b0c"), looks := true }, kinds := [], alts := [], laidByText := true, laidKinds := [.sentinel, .sentinel, .sentinel], laidTests := true, laidLooks := .later }
def FnSkipCompactCardSaid : Prop := Claim7.holds Tryz.pinned (.plain (OpenSpec.ofChange fnSkipCompactSpec)) fnSkipCompactCard

/-- THE TIED CARD OF 'laws.FnReadBinary'. -/
def fnReadBinaryCard : Claim7 := { stood := { row := fnReadBinaryRow, standIns := [], harness := (true, "c79d9413b195be00494508832bcb305e5d803e5716419807321bba95d7483b0c"), looks := true }, kinds := [], alts := [], laidByText := true, laidKinds := [.sentinel, .sentinel, .sentinel], laidTests := true, laidLooks := .later }
def FnReadBinaryCardSaid : Prop := Claim7.holds Tryz.pinned (.plain (OpenSpec.ofChange fnReadBinarySpec)) fnReadBinaryCard

/-- THE TIED CARD OF 'laws.FnReadCompact'. -/
def fnReadCompactCard : Claim7 := { stood := { row := fnReadCompactRow, standIns := [], harness := (true, "c79d9413b195be00494508832bcb305e5d803e5716419807321bba95d7483b0c"), looks := true }, kinds := [], alts := [], laidByText := true, laidKinds := [.sentinel, .sentinel, .sentinel], laidTests := true, laidLooks := .later }
def FnReadCompactCardSaid : Prop := Claim7.holds Tryz.pinned (.plain (OpenSpec.ofChange fnReadCompactSpec)) fnReadCompactCard

/-- THE SECOND FORM's CARD OF 'laws.FnGetBinary'. -/
def fnGetBinaryUptoCard : Claim7 := { stood := { row := fnGetBinaryUptoRow, standIns := [], harness := (true, "c79d9413b195be00494508832bcb305e5d803e5716419807321bba95d7483b0c"), looks := true }, kinds := [], alts := [], laidByText := true, laidKinds := [.sentinel, .sentinel, .sentinel], laidTests := true, laidLooks := .later }
def FnGetBinaryUptoCardSaid : Prop := Claim7.holds Tryz.pinned (.plain (OpenSpec.upto fnGetBinarySpec)) fnGetBinaryUptoCard

/-- THE SECOND FORM's CARD OF 'laws.FnGetCompact'. -/
def fnGetCompactUptoCard : Claim7 := { stood := { row := fnGetCompactUptoRow, standIns := [], harness := (true, "c79d9413b195be00494508832bcb305e5d803e5716419807321bba95d7483b0c"), looks := true }, kinds := [], alts := [], laidByText := true, laidKinds := [.sentinel, .sentinel, .sentinel], laidTests := true, laidLooks := .later }
def FnGetCompactUptoCardSaid : Prop := Claim7.holds Tryz.pinned (.plain (OpenSpec.upto fnGetCompactSpec)) fnGetCompactUptoCard

/-- THE SECOND FORM's CARD OF 'laws.FnSkipCompact'. -/
def fnSkipCompactUptoCard : Claim7 := { stood := { row := fnSkipCompactUptoRow, standIns := [], harness := (true, "c79d9413b195be00494508832bcb305e5d803e5716419807321bba95d7483b0c"), looks := true }, kinds := [], alts := [], laidByText := true, laidKinds := [.sentinel, .sentinel, .sentinel], laidTests := true, laidLooks := .later }
def FnSkipCompactUptoCardSaid : Prop := Claim7.holds Tryz.pinned (.plain (OpenSpec.upto fnSkipCompactSpec)) fnSkipCompactUptoCard

/-- THE SECOND FORM's CARD OF 'laws.FnReadBinary'. -/
def fnReadBinaryUptoCard : Claim7 := { stood := { row := fnReadBinaryUptoRow, standIns := [], harness := (true, "c79d9413b195be00494508832bcb305e5d803e5716419807321bba95d7483b0c"), looks := true }, kinds := [], alts := [], laidByText := true, laidKinds := [.sentinel, .sentinel, .sentinel], laidTests := true, laidLooks := .later }
def FnReadBinaryUptoCardSaid : Prop := Claim7.holds Tryz.pinned (.plain (OpenSpec.upto fnReadBinarySpec)) fnReadBinaryUptoCard

/-- THE SECOND FORM's CARD OF 'laws.FnReadCompact'. -/
def fnReadCompactUptoCard : Claim7 := { stood := { row := fnReadCompactUptoRow, standIns := [], harness := (true, "c79d9413b195be00494508832bcb305e5d803e5716419807321bba95d7483b0c"), looks := true }, kinds := [], alts := [], laidByText := true, laidKinds := [.sentinel, .sentinel, .sentinel], laidTests := true, laidLooks := .later }
def FnReadCompactUptoCardSaid : Prop := Claim7.holds Tryz.pinned (.plain (OpenSpec.upto fnReadCompactSpec)) fnReadCompactUptoCard
end Rows
end Go.Proofs.YtpfifpgbnhdjnaaGreatDoor
