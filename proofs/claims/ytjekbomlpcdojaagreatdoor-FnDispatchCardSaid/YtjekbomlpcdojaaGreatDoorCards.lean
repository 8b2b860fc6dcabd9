/-
  DERIVED. GIVEN WITH THE SEED: THE CARDS: each row of YtjekbomlpcdojaaGreatDoorRows.lean that lists a variable, with what it lists TIED to the program's text (the seventh form; the later family's looks); each row that meets fmt, with fmt's text TOLD by the authors' own Lean function (tested against real Go, not proved from fmt's source: count such statements apart). THE CARD IS WHAT COUNTS. Prove the row's statement (the work); the ties are given (YtjekbomlpcdojaaGreatDoorTie.lean); close each card by the builder's one call (the guide's Derived/Test/ToyasCard.lean, 'card_holds'). Laid BY PROGRAM, IN A SANDBOX (cutbox-door.mjs). By AI agents, Wed Nov 11 2026. No macro, syntax, notation, axiom, sorry.
-/
import Derived.Test.YtjekbomlpcdojaaGreatDoorRows
import GoSem.ClaimSeven
namespace Go.Proofs.YtjekbomlpcdojaaGreatDoor
namespace Rows

/-- THE TIED CARD OF 'laws.FnReadBinary'. -/
def fnReadBinaryCard : Claim7 := { stood := { row := fnReadBinaryRow, standIns := [], harness := (true, "4f144516ca5bad2986bdb76b1bd045b7239f53146f1259cfa655e3eed9e0f2aa"), looks := true }, kinds := [], alts := [], laidByText := true, laidKinds := [.sentinel, .sentinel, .sentinel], laidTests := true, laidLooks := .later }
def FnReadBinaryCardSaid : Prop := Claim7.holds Tryz.pinned (.plain (OpenSpec.ofChange fnReadBinarySpec)) fnReadBinaryCard

/-- THE TIED CARD OF 'laws.FnReadCompact'. -/
def fnReadCompactCard : Claim7 := { stood := { row := fnReadCompactRow, standIns := [], harness := (true, "4f144516ca5bad2986bdb76b1bd045b7239f53146f1259cfa655e3eed9e0f2aa"), looks := true }, kinds := [], alts := [], laidByText := true, laidKinds := [.sentinel, .sentinel, .sentinel], laidTests := true, laidLooks := .later }
def FnReadCompactCardSaid : Prop := Claim7.holds Tryz.pinned (.plain (OpenSpec.ofChange fnReadCompactSpec)) fnReadCompactCard

/-- THE TIED CARD OF 'laws.FnDeserial'. -/
def fnDeserialCard : Claim7 := { stood := { row := fnDeserialRow, standIns := [], harness := (true, "4f144516ca5bad2986bdb76b1bd045b7239f53146f1259cfa655e3eed9e0f2aa"), looks := true }, kinds := [], alts := [], laidByText := true, laidKinds := [.sentinel, .sentinel, .sentinel], laidTests := true, laidLooks := .later }
def FnDeserialCardSaid : Prop := Claim7.holds Tryz.pinned (.plain (OpenSpec.ofChange fnDeserialSpec)) fnDeserialCard

/-- THE TIED CARD OF 'laws.FnDispatch'. -/
def fnDispatchCard : Claim7 := { stood := { row := fnDispatchRow, standIns := [], harness := (true, "4f144516ca5bad2986bdb76b1bd045b7239f53146f1259cfa655e3eed9e0f2aa"), looks := true }, kinds := [], alts := [], laidByText := true, laidKinds := [.sentinel, .sentinel, .sentinel], laidTests := true, laidLooks := .later }
def FnDispatchCardSaid : Prop := Claim7.holds Tryz.pinned (.plain (OpenSpec.ofChange fnDispatchSpec)) fnDispatchCard

/-- THE TIED CARD OF 'laws.FnCalls'. -/
def fnCallsCard : Claim7 := { stood := { row := fnCallsRow, standIns := [], harness := (true, "4f144516ca5bad2986bdb76b1bd045b7239f53146f1259cfa655e3eed9e0f2aa"), looks := true }, kinds := [], alts := [], laidByText := true, laidKinds := [.sentinel, .sentinel, .sentinel], laidTests := true, laidLooks := .later }
def FnCallsCardSaid : Prop := Claim7.holds Tryz.pinned (.plain (OpenSpec.ofChange fnCallsSpec)) fnCallsCard

/-- THE SECOND FORM's CARD OF 'laws.FnReadBinary'. -/
def fnReadBinaryUptoCard : Claim7 := { stood := { row := fnReadBinaryUptoRow, standIns := [], harness := (true, "4f144516ca5bad2986bdb76b1bd045b7239f53146f1259cfa655e3eed9e0f2aa"), looks := true }, kinds := [], alts := [], laidByText := true, laidKinds := [.sentinel, .sentinel, .sentinel], laidTests := true, laidLooks := .later }
def FnReadBinaryUptoCardSaid : Prop := Claim7.holds Tryz.pinned (.plain (OpenSpec.upto fnReadBinarySpec)) fnReadBinaryUptoCard

/-- THE SECOND FORM's CARD OF 'laws.FnReadCompact'. -/
def fnReadCompactUptoCard : Claim7 := { stood := { row := fnReadCompactUptoRow, standIns := [], harness := (true, "4f144516ca5bad2986bdb76b1bd045b7239f53146f1259cfa655e3eed9e0f2aa"), looks := true }, kinds := [], alts := [], laidByText := true, laidKinds := [.sentinel, .sentinel, .sentinel], laidTests := true, laidLooks := .later }
def FnReadCompactUptoCardSaid : Prop := Claim7.holds Tryz.pinned (.plain (OpenSpec.upto fnReadCompactSpec)) fnReadCompactUptoCard

/-- THE SECOND FORM's CARD OF 'laws.FnDeserial'. -/
def fnDeserialUptoCard : Claim7 := { stood := { row := fnDeserialUptoRow, standIns := [], harness := (true, "4f144516ca5bad2986bdb76b1bd045b7239f53146f1259cfa655e3eed9e0f2aa"), looks := true }, kinds := [], alts := [], laidByText := true, laidKinds := [.sentinel, .sentinel, .sentinel], laidTests := true, laidLooks := .later }
def FnDeserialUptoCardSaid : Prop := Claim7.holds Tryz.pinned (.plain (OpenSpec.upto fnDeserialSpec)) fnDeserialUptoCard

/-- THE SECOND FORM's CARD OF 'laws.FnDispatch'. -/
def fnDispatchUptoCard : Claim7 := { stood := { row := fnDispatchUptoRow, standIns := [], harness := (true, "4f144516ca5bad2986bdb76b1bd045b7239f53146f1259cfa655e3eed9e0f2aa"), looks := true }, kinds := [], alts := [], laidByText := true, laidKinds := [.sentinel, .sentinel, .sentinel], laidTests := true, laidLooks := .later }
def FnDispatchUptoCardSaid : Prop := Claim7.holds Tryz.pinned (.plain (OpenSpec.upto fnDispatchSpec)) fnDispatchUptoCard

/-- THE SECOND FORM's CARD OF 'laws.FnCalls'. -/
def fnCallsUptoCard : Claim7 := { stood := { row := fnCallsUptoRow, standIns := [], harness := (true, "4f144516ca5bad2986bdb76b1bd045b7239f53146f1259cfa655e3eed9e0f2aa"), looks := true }, kinds := [], alts := [], laidByText := true, laidKinds := [.sentinel, .sentinel, .sentinel], laidTests := true, laidLooks := .later }
def FnCallsUptoCardSaid : Prop := Claim7.holds Tryz.pinned (.plain (OpenSpec.upto fnCallsSpec)) fnCallsUptoCard
end Rows
end Go.Proofs.YtjekbomlpcdojaaGreatDoor
