/-
  DERIVED. GIVEN WITH THE SEED: THE CARDS: each row of YthehmlbolajljaaGreatDoorRows.lean that lists a variable, with what it lists TIED to the program's text (the seventh form; the later family's looks); each row that meets fmt, with fmt's text TOLD by the authors' own Lean function (tested against real Go, not proved from fmt's source: count such statements apart). THE CARD IS WHAT COUNTS. Prove the row's statement (the work); the ties are given (YthehmlbolajljaaGreatDoorTie.lean); close each card by the builder's one call (the guide's Derived/Test/ToyasCard.lean, 'card_holds'). Laid BY PROGRAM, IN A SANDBOX (cutbox-door.mjs). By AI agents, Wed Nov 11 2026. No macro, syntax, notation, axiom, sorry.
-/
import Derived.Test.YthehmlbolajljaaGreatDoorRows
import GoSem.ClaimSeven
namespace Go.Proofs.YthehmlbolajljaaGreatDoor
namespace Rows

/-- THE TIED CARD OF 'laws.FnGetMessage'. -/
def fnGetMessageCard : Claim7 := { stood := { row := fnGetMessageRow, standIns := [], harness := (true, "8b294fb010ac3df24137632646726b0c9da9e8d0ead944a9ae0ebaacb1859a9f"), looks := true }, kinds := [], alts := [], laidByText := true, laidKinds := [.sentinel, .sentinel, .sentinel], laidTests := true, laidLooks := .later }
def FnGetMessageCardSaid : Prop := Claim7.holds Tryz.pinned (.plain (OpenSpec.ofChange fnGetMessageSpec)) fnGetMessageCard

/-- THE TIED CARD OF 'laws.FnReadBinary'. -/
def fnReadBinaryCard : Claim7 := { stood := { row := fnReadBinaryRow, standIns := [], harness := (true, "8b294fb010ac3df24137632646726b0c9da9e8d0ead944a9ae0ebaacb1859a9f"), looks := true }, kinds := [], alts := [], laidByText := true, laidKinds := [.sentinel, .sentinel, .sentinel], laidTests := true, laidLooks := .later }
def FnReadBinaryCardSaid : Prop := Claim7.holds Tryz.pinned (.plain (OpenSpec.ofChange fnReadBinarySpec)) fnReadBinaryCard

/-- THE TIED CARD OF 'laws.FnReadCompact'. -/
def fnReadCompactCard : Claim7 := { stood := { row := fnReadCompactRow, standIns := [], harness := (true, "8b294fb010ac3df24137632646726b0c9da9e8d0ead944a9ae0ebaacb1859a9f"), looks := true }, kinds := [], alts := [], laidByText := true, laidKinds := [.sentinel, .sentinel, .sentinel], laidTests := true, laidLooks := .later }
def FnReadCompactCardSaid : Prop := Claim7.holds Tryz.pinned (.plain (OpenSpec.ofChange fnReadCompactSpec)) fnReadCompactCard

/-- THE TIED CARD OF 'laws.FnDeserial'. -/
def fnDeserialCard : Claim7 := { stood := { row := fnDeserialRow, standIns := [], harness := (true, "8b294fb010ac3df24137632646726b0c9da9e8d0ead944a9ae0ebaacb1859a9f"), looks := true }, kinds := [], alts := [], laidByText := true, laidKinds := [.sentinel, .sentinel, .sentinel], laidTests := true, laidLooks := .later }
def FnDeserialCardSaid : Prop := Claim7.holds Tryz.pinned (.plain (OpenSpec.ofChange fnDeserialSpec)) fnDeserialCard

/-- THE TIED CARD OF 'laws.FnRecv'. -/
def fnRecvCard : Claim7 := { stood := { row := fnRecvRow, standIns := [], harness := (true, "8b294fb010ac3df24137632646726b0c9da9e8d0ead944a9ae0ebaacb1859a9f"), looks := true }, kinds := [], alts := [], laidByText := true, laidKinds := [.sentinel, .sentinel, .sentinel], laidTests := true, laidLooks := .later }
def FnRecvCardSaid : Prop := Claim7.holds Tryz.pinned (.plain (OpenSpec.ofChange fnRecvSpec)) fnRecvCard

/-- THE SECOND FORM's CARD OF 'laws.FnGetMessage'. -/
def fnGetMessageUptoCard : Claim7 := { stood := { row := fnGetMessageUptoRow, standIns := [], harness := (true, "8b294fb010ac3df24137632646726b0c9da9e8d0ead944a9ae0ebaacb1859a9f"), looks := true }, kinds := [], alts := [], laidByText := true, laidKinds := [.sentinel, .sentinel, .sentinel], laidTests := true, laidLooks := .later }
def FnGetMessageUptoCardSaid : Prop := Claim7.holds Tryz.pinned (.plain (OpenSpec.upto fnGetMessageSpec)) fnGetMessageUptoCard

/-- THE SECOND FORM's CARD OF 'laws.FnReadBinary'. -/
def fnReadBinaryUptoCard : Claim7 := { stood := { row := fnReadBinaryUptoRow, standIns := [], harness := (true, "8b294fb010ac3df24137632646726b0c9da9e8d0ead944a9ae0ebaacb1859a9f"), looks := true }, kinds := [], alts := [], laidByText := true, laidKinds := [.sentinel, .sentinel, .sentinel], laidTests := true, laidLooks := .later }
def FnReadBinaryUptoCardSaid : Prop := Claim7.holds Tryz.pinned (.plain (OpenSpec.upto fnReadBinarySpec)) fnReadBinaryUptoCard

/-- THE SECOND FORM's CARD OF 'laws.FnReadCompact'. -/
def fnReadCompactUptoCard : Claim7 := { stood := { row := fnReadCompactUptoRow, standIns := [], harness := (true, "8b294fb010ac3df24137632646726b0c9da9e8d0ead944a9ae0ebaacb1859a9f"), looks := true }, kinds := [], alts := [], laidByText := true, laidKinds := [.sentinel, .sentinel, .sentinel], laidTests := true, laidLooks := .later }
def FnReadCompactUptoCardSaid : Prop := Claim7.holds Tryz.pinned (.plain (OpenSpec.upto fnReadCompactSpec)) fnReadCompactUptoCard

/-- THE SECOND FORM's CARD OF 'laws.FnDeserial'. -/
def fnDeserialUptoCard : Claim7 := { stood := { row := fnDeserialUptoRow, standIns := [], harness := (true, "8b294fb010ac3df24137632646726b0c9da9e8d0ead944a9ae0ebaacb1859a9f"), looks := true }, kinds := [], alts := [], laidByText := true, laidKinds := [.sentinel, .sentinel, .sentinel], laidTests := true, laidLooks := .later }
def FnDeserialUptoCardSaid : Prop := Claim7.holds Tryz.pinned (.plain (OpenSpec.upto fnDeserialSpec)) fnDeserialUptoCard

/-- THE SECOND FORM's CARD OF 'laws.FnRecv'. -/
def fnRecvUptoCard : Claim7 := { stood := { row := fnRecvUptoRow, standIns := [], harness := (true, "8b294fb010ac3df24137632646726b0c9da9e8d0ead944a9ae0ebaacb1859a9f"), looks := true }, kinds := [], alts := [], laidByText := true, laidKinds := [.sentinel, .sentinel, .sentinel], laidTests := true, laidLooks := .later }
def FnRecvUptoCardSaid : Prop := Claim7.holds Tryz.pinned (.plain (OpenSpec.upto fnRecvSpec)) fnRecvUptoCard
end Rows
end Go.Proofs.YthehmlbolajljaaGreatDoor
