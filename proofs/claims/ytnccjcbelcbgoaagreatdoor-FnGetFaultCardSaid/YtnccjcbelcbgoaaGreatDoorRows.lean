/-
  NARROWER THAN 'FOR EVERY INPUT', by the rows' own cells (each row's printed sentence says how): FnGetCompact: laid · FnGetFault: laid · FnGetMessage: laid.
  DERIVED. THE GIVEN ROWS OF THIS SEAT. 3 by the template 'for every input the law returns true; each argument reads behind the call as it read before'; 0 by the template 'total and deterministic' (their statements: YtnccjcbelcbgoaaGreatDoorTotals.lean).
  GIVEN WITH THE SEED: the statements are not yours to turn. If you find one false, say at which input.
  Laid BY PROGRAM, IN A SANDBOX (cutbox-rows.mjs): the forced cells as the released guide's own fill.sh prints them over the translation d054e7d37595c356… (all of the seat's roots in one cut). By AI agents, Wed Nov 11 2026. No macro, syntax, notation, axiom, sorry.
-/
import Derived.Test.YtnccjcbelcbgoaaGreatDoorChecked
import GoSem.Claim
import GoSem.ClaimJoined
import GoSem.ClaimMapViews
import Derived.JoinedTies
import Derived.KernelRfl
namespace Go.Proofs.YtnccjcbelcbgoaaGreatDoor
/- THE CELL 'sum', in the pinned program and in every row, IS THE sha256 OF THE DUMP (.gsa) THAT YtnccjcbelcbgoaaGreatDoorProg.lean LOADS. Nothing in Lean hashes anything: it is a label: what it is worth is what the hold of that sum in a sandbox is worth. -/
noncomputable def Tryz.pinned : Pinned := { name := "ytnccjcbelcbgoaagreatdoor", sum := "d054e7d37595c356e8d79ec8976ed89961316656a2430ee5d4ace32e22437a21", checked := Tryz.checked }
namespace Rows
def none {H : Type} : Left H := { results := [], args := [] }

/- WHAT THE LISTED PACKAGE-LEVEL VARIABLES READ AS WHEN THE CALL BEGINS. Each datum BY PROGRAM (the guide's laid-datum.mjs) off the statement by which the dump's own 'gosem.cut.vars' lays the variable. In a bare row this is a premise. The card (YtnccjcbelcbgoaaGreatDoorCards.lean) ties it to the program's text. -/
def laid_io_EOF {H : Type} : DataW H := .iface "*errors.errorString" (.ptr (.agg [.lit (.string [69, 79, 70])]))
def laid_io_ErrUnexpectedEOF {H : Type} : DataW H := .iface "*errors.errorString" (.ptr (.agg [.lit (.string [117, 110, 101, 120, 112, 101, 99, 116, 101, 100, 32, 69, 79, 70])]))
def laid_bytes_ErrTooLarge {H : Type} : DataW H := .iface "*errors.errorString" (.ptr (.agg [.lit (.string [98, 121, 116, 101, 115, 46, 66, 117, 102, 102, 101, 114, 58, 32, 116, 111, 111, 32, 108, 97, 114, 103, 101])]))

/-- 'laws.FnGetCompact': WHATEVER THE INPUT: true; the input reads as it did. -/
def fnGetCompactSpec : ChangeSpec := { name := "fnGetCompact", fn := fun _ => fun
  | [d1, d2, d3, d4] => { results := [.lit (.bool true)], args := [d1, d2, d3, d4] }
  | _ => none }
def fnGetCompactRow : OpenClaim := { program := "ytnccjcbelcbgoaagreatdoor", sum := "d054e7d37595c356e8d79ec8976ed89961316656a2430ee5d4ace32e22437a21", func := "pub-twineward/laws.FnGetCompact", spec := "fnGetCompact", inPlace := ["math.Float64frombits", "math.Float64bits"], unfollowed := true, recurses := true, named := ["io.EOF", "io.ErrUnexpectedEOF", "bytes.ErrTooLarge"], apart := false, laid := [("io.EOF", laid_io_EOF), ("io.ErrUnexpectedEOF", laid_io_ErrUnexpectedEOF), ("bytes.ErrTooLarge", laid_bytes_ErrTooLarge)] }
def FnGetCompactSaid : Prop := fnGetCompactRow.holds Tryz.pinned (OpenSpec.ofChange fnGetCompactSpec)

/-- ITS FALSE NEIGHBOUR: 'it returns false'. Refute it at one input. -/
def fnGetCompactWrong : ChangeSpec := { name := "fnGetCompact", fn := fun _ => fun
  | [d1, d2, d3, d4] => { results := [.lit (.bool false)], args := [d1, d2, d3, d4] }
  | _ => none }
def FnGetCompactWrongFalsely : Prop := fnGetCompactRow.holds Tryz.pinned (OpenSpec.ofChange fnGetCompactWrong)

/-- 'laws.FnGetFault': WHATEVER THE INPUT: true; the input reads as it did. -/
def fnGetFaultSpec : ChangeSpec := { name := "fnGetFault", fn := fun _ => fun
  | [d1, d2] => { results := [.lit (.bool true)], args := [d1, d2] }
  | _ => none }
def fnGetFaultRow : OpenClaim := { program := "ytnccjcbelcbgoaagreatdoor", sum := "d054e7d37595c356e8d79ec8976ed89961316656a2430ee5d4ace32e22437a21", func := "pub-twineward/laws.FnGetFault", spec := "fnGetFault", inPlace := ["math.Float64frombits", "math.Float64bits"], unfollowed := true, recurses := true, named := ["io.EOF", "io.ErrUnexpectedEOF", "bytes.ErrTooLarge"], apart := false, laid := [("io.EOF", laid_io_EOF), ("io.ErrUnexpectedEOF", laid_io_ErrUnexpectedEOF), ("bytes.ErrTooLarge", laid_bytes_ErrTooLarge)] }
def FnGetFaultSaid : Prop := fnGetFaultRow.holds Tryz.pinned (OpenSpec.ofChange fnGetFaultSpec)

/-- ITS FALSE NEIGHBOUR: 'it returns false'. Refute it at one input. -/
def fnGetFaultWrong : ChangeSpec := { name := "fnGetFault", fn := fun _ => fun
  | [d1, d2] => { results := [.lit (.bool false)], args := [d1, d2] }
  | _ => none }
def FnGetFaultWrongFalsely : Prop := fnGetFaultRow.holds Tryz.pinned (OpenSpec.ofChange fnGetFaultWrong)

/-- 'laws.FnGetMessage': WHATEVER THE INPUT: true; the input reads as it did. -/
def fnGetMessageSpec : ChangeSpec := { name := "fnGetMessage", fn := fun _ => fun
  | [d1, d2, d3] => { results := [.lit (.bool true)], args := [d1, d2, d3] }
  | _ => none }
def fnGetMessageRow : OpenClaim := { program := "ytnccjcbelcbgoaagreatdoor", sum := "d054e7d37595c356e8d79ec8976ed89961316656a2430ee5d4ace32e22437a21", func := "pub-twineward/laws.FnGetMessage", spec := "fnGetMessage", inPlace := ["math.Float64frombits", "math.Float64bits"], unfollowed := true, recurses := true, named := ["io.EOF", "io.ErrUnexpectedEOF", "bytes.ErrTooLarge"], apart := false, laid := [("io.EOF", laid_io_EOF), ("io.ErrUnexpectedEOF", laid_io_ErrUnexpectedEOF), ("bytes.ErrTooLarge", laid_bytes_ErrTooLarge)] }
def FnGetMessageSaid : Prop := fnGetMessageRow.holds Tryz.pinned (OpenSpec.ofChange fnGetMessageSpec)

/-- ITS FALSE NEIGHBOUR: 'it returns false'. Refute it at one input. -/
def fnGetMessageWrong : ChangeSpec := { name := "fnGetMessage", fn := fun _ => fun
  | [d1, d2, d3] => { results := [.lit (.bool false)], args := [d1, d2, d3] }
  | _ => none }
def FnGetMessageWrongFalsely : Prop := fnGetMessageRow.holds Tryz.pinned (OpenSpec.ofChange fnGetMessageWrong)

/- THE SECOND FORM. 'bulk': how many values and letters a reading holds, each counted each time it is reached (what is shared counts as often as it is met; a slice's spare places count too). A statement '..UptoSaid' is the law's where the arguments, and the package variables that the reading takes, are together of bulk at most 1048576: NARROWER than '..Said'. Prove '..Said' where nothing that the law and all that it calls make is longer than what came in: it says more and counts as full. Else prove '..UptoSaid'. A law counts once. -/
mutual
def uptoBulk {H : Type} : DataW H → Nat
  | .lit (.string bytes) => bytes.length + 1
  | .lit _ => 1
  | .nil => 1
  | .ptr d => uptoBulk d + 1
  | .slice elems spare => uptoBulkAll elems + uptoBulkAll spare + 1
  | .agg parts => uptoBulkAll parts + 1
  | .iface _ d => uptoBulk d + 1
  | .map entries => uptoBulkEntries entries + 1
  | .held _ => 1
def uptoBulkAll {H : Type} : List (DataW H) → Nat
  | [] => 0
  | d :: r => uptoBulk d + uptoBulkAll r
def uptoBulkEntries {H : Type} : List (Lit × DataW H) → Nat
  | [] => 0
  | x :: r => uptoBulkEntry x + uptoBulkEntries r
def uptoBulkEntry {H : Type} : Lit × DataW H → Nat
  | (.string bytes, d) => bytes.length + uptoBulk d + 1
  | (_, d) => uptoBulk d + 1
 end
def uptoSmall : (H : Type) → List (DataW H) → Bool := fun _ ds => decide (uptoBulkAll ds ≤ 1048576)
def OpenSpec.upto (s : _root_.Go.ChangeSpec) : _root_.Go.OpenSpec := { _root_.Go.OpenSpec.ofChange s with cond := some uptoSmall }

/-- 'laws.FnGetCompact', WHERE WHAT IT READS IS OF BULK AT MOST 1048576: true; the input reads as it did. -/
def fnGetCompactUptoRow : OpenClaim := { program := "ytnccjcbelcbgoaagreatdoor", sum := "d054e7d37595c356e8d79ec8976ed89961316656a2430ee5d4ace32e22437a21", func := "pub-twineward/laws.FnGetCompact", spec := "fnGetCompact", inPlace := ["math.Float64frombits", "math.Float64bits"], unfollowed := true, recurses := true, named := ["io.EOF", "io.ErrUnexpectedEOF", "bytes.ErrTooLarge"], apart := false, laid := [("io.EOF", laid_io_EOF), ("io.ErrUnexpectedEOF", laid_io_ErrUnexpectedEOF), ("bytes.ErrTooLarge", laid_bytes_ErrTooLarge)], narrowed := true }
def FnGetCompactUptoSaid : Prop := fnGetCompactUptoRow.holds Tryz.pinned (OpenSpec.upto fnGetCompactSpec)

/-- 'laws.FnGetFault', WHERE WHAT IT READS IS OF BULK AT MOST 1048576: true; the input reads as it did. -/
def fnGetFaultUptoRow : OpenClaim := { program := "ytnccjcbelcbgoaagreatdoor", sum := "d054e7d37595c356e8d79ec8976ed89961316656a2430ee5d4ace32e22437a21", func := "pub-twineward/laws.FnGetFault", spec := "fnGetFault", inPlace := ["math.Float64frombits", "math.Float64bits"], unfollowed := true, recurses := true, named := ["io.EOF", "io.ErrUnexpectedEOF", "bytes.ErrTooLarge"], apart := false, laid := [("io.EOF", laid_io_EOF), ("io.ErrUnexpectedEOF", laid_io_ErrUnexpectedEOF), ("bytes.ErrTooLarge", laid_bytes_ErrTooLarge)], narrowed := true }
def FnGetFaultUptoSaid : Prop := fnGetFaultUptoRow.holds Tryz.pinned (OpenSpec.upto fnGetFaultSpec)

/-- 'laws.FnGetMessage', WHERE WHAT IT READS IS OF BULK AT MOST 1048576: true; the input reads as it did. -/
def fnGetMessageUptoRow : OpenClaim := { program := "ytnccjcbelcbgoaagreatdoor", sum := "d054e7d37595c356e8d79ec8976ed89961316656a2430ee5d4ace32e22437a21", func := "pub-twineward/laws.FnGetMessage", spec := "fnGetMessage", inPlace := ["math.Float64frombits", "math.Float64bits"], unfollowed := true, recurses := true, named := ["io.EOF", "io.ErrUnexpectedEOF", "bytes.ErrTooLarge"], apart := false, laid := [("io.EOF", laid_io_EOF), ("io.ErrUnexpectedEOF", laid_io_ErrUnexpectedEOF), ("bytes.ErrTooLarge", laid_bytes_ErrTooLarge)], narrowed := true }
def FnGetMessageUptoSaid : Prop := fnGetMessageUptoRow.holds Tryz.pinned (OpenSpec.upto fnGetMessageSpec)

end Rows
end Go.Proofs.YtnccjcbelcbgoaaGreatDoor
