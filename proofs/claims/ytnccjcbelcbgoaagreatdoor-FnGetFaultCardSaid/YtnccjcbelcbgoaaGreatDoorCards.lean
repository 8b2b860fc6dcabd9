/-
  DERIVED. GIVEN WITH THE SEED: THE CARDS: each row of YtnccjcbelcbgoaaGreatDoorRows.lean that lists a variable, with what it lists TIED to the program's text (the seventh form; the later family's looks); each row that meets fmt, with fmt's text TOLD by the authors' own Lean function (tested against real Go, not proved from fmt's source: count such statements apart). THE CARD IS WHAT COUNTS. Prove the row's statement (the work); the ties are given (YtnccjcbelcbgoaaGreatDoorTie.lean); close each card by the builder's one call (the guide's Derived/Test/ToyasCard.lean, 'card_holds'). Laid BY PROGRAM, IN A SANDBOX (cutbox-door.mjs). By AI agents, Wed Nov 11 2026. No macro, syntax, notation, axiom, sorry.
-/
import Derived.Test.YtnccjcbelcbgoaaGreatDoorRows
import GoSem.ClaimSeven
namespace Go.Proofs.YtnccjcbelcbgoaaGreatDoor
namespace Rows

/-- THE TIED CARD OF 'laws.FnGetCompact'. -/
def fnGetCompactCard : Claim7 := { stood := { row := fnGetCompactRow, standIns := [], harness := (true, "b5c60fea0beaf6f2393a9188753686003e1c820683b4f1591416e8415161335e"), looks := true }, kinds := [], alts := [], laidByText := true, laidKinds := [.sentinel, .sentinel, .sentinel], laidTests := true, laidLooks := .later }
def FnGetCompactCardSaid : Prop := Claim7.holds Tryz.pinned (.plain (OpenSpec.ofChange fnGetCompactSpec)) fnGetCompactCard

/-- THE TIED CARD OF 'laws.FnGetFault'. -/
def fnGetFaultCard : Claim7 := { stood := { row := fnGetFaultRow, standIns := [], harness := (true, "b5c60fea0beaf6f2393a9188753686003e1c820683b4f1591416e8415161335e"), looks := true }, kinds := [], alts := [], laidByText := true, laidKinds := [.sentinel, .sentinel, .sentinel], laidTests := true, laidLooks := .later }
def FnGetFaultCardSaid : Prop := Claim7.holds Tryz.pinned (.plain (OpenSpec.ofChange fnGetFaultSpec)) fnGetFaultCard

/-- THE TIED CARD OF 'laws.FnGetMessage'. -/
def fnGetMessageCard : Claim7 := { stood := { row := fnGetMessageRow, standIns := [], harness := (true, "b5c60fea0beaf6f2393a9188753686003e1c820683b4f1591416e8415161335e"), looks := true }, kinds := [], alts := [], laidByText := true, laidKinds := [.sentinel, .sentinel, .sentinel], laidTests := true, laidLooks := .later }
def FnGetMessageCardSaid : Prop := Claim7.holds Tryz.pinned (.plain (OpenSpec.ofChange fnGetMessageSpec)) fnGetMessageCard

/-- THE SECOND FORM's CARD OF 'laws.FnGetCompact'. -/
def fnGetCompactUptoCard : Claim7 := { stood := { row := fnGetCompactUptoRow, standIns := [], harness := (true, "b5c60fea0beaf6f2393a9188753686003e1c820683b4f1591416e8415161335e"), looks := true }, kinds := [], alts := [], laidByText := true, laidKinds := [.sentinel, .sentinel, .sentinel], laidTests := true, laidLooks := .later }
def FnGetCompactUptoCardSaid : Prop := Claim7.holds Tryz.pinned (.plain (OpenSpec.upto fnGetCompactSpec)) fnGetCompactUptoCard

/-- THE SECOND FORM's CARD OF 'laws.FnGetFault'. -/
def fnGetFaultUptoCard : Claim7 := { stood := { row := fnGetFaultUptoRow, standIns := [], harness := (true, "b5c60fea0beaf6f2393a9188753686003e1c820683b4f1591416e8415161335e"), looks := true }, kinds := [], alts := [], laidByText := true, laidKinds := [.sentinel, .sentinel, .sentinel], laidTests := true, laidLooks := .later }
def FnGetFaultUptoCardSaid : Prop := Claim7.holds Tryz.pinned (.plain (OpenSpec.upto fnGetFaultSpec)) fnGetFaultUptoCard

/-- THE SECOND FORM's CARD OF 'laws.FnGetMessage'. -/
def fnGetMessageUptoCard : Claim7 := { stood := { row := fnGetMessageUptoRow, standIns := [], harness := (true, "b5c60fea0beaf6f2393a9188753686003e1c820683b4f1591416e8415161335e"), looks := true }, kinds := [], alts := [], laidByText := true, laidKinds := [.sentinel, .sentinel, .sentinel], laidTests := true, laidLooks := .later }
def FnGetMessageUptoCardSaid : Prop := Claim7.holds Tryz.pinned (.plain (OpenSpec.upto fnGetMessageSpec)) fnGetMessageUptoCard
end Rows
end Go.Proofs.YtnccjcbelcbgoaaGreatDoor
