/-
  NARROWER THAN 'FOR EVERY INPUT', by the rows' own cells (each row's printed sentence says how): FnReadBinary: laid · FnReadCompact: laid · FnDeserial: laid · FnDispatch: laid · FnCalls: loops, laid.
  DERIVED. THE GIVEN ROWS OF THIS SEAT. 5 by the template 'for every input the law returns true; each argument reads behind the call as it read before'; 0 by the template 'total and deterministic' (their statements: YtjekbomlpcdojaaGreatDoorTotals.lean).
  GIVEN WITH THE SEED: the statements are not yours to turn. If you find one false, say at which input.
  Laid BY PROGRAM, IN A SANDBOX (cutbox-rows.mjs): the forced cells as the released guide's own fill.sh prints them over the translation e9a5f652316af3e7… (all of the seat's roots in one cut). By AI agents, Wed Nov 11 2026. No macro, syntax, notation, axiom, sorry.
-/
import Derived.Test.YtjekbomlpcdojaaGreatDoorChecked
import GoSem.Claim
import GoSem.ClaimJoined
import GoSem.ClaimMapViews
import Derived.JoinedTies
import Derived.KernelRfl
namespace Go.Proofs.YtjekbomlpcdojaaGreatDoor
/- THE CELL 'sum', in the pinned program and in every row, IS THE sha256 OF THE DUMP (.gsa) THAT YtjekbomlpcdojaaGreatDoorProg.lean LOADS. Nothing in Lean hashes anything: it is a label: what it is worth is what the hold of that sum in a sandbox is worth. -/
noncomputable def Tryz.pinned : Pinned := { name := "ytjekbomlpcdojaagreatdoor", sum := "e9a5f652316af3e7205b164a9990bf90e2fdfe933f336e0adbc5a4b3760d3cd6", checked := Tryz.checked }
namespace Rows
def none {H : Type} : Left H := { results := [], args := [] }

/- WHAT THE LISTED PACKAGE-LEVEL VARIABLES READ AS WHEN THE CALL BEGINS. Each datum BY PROGRAM (the guide's laid-datum.mjs) off the statement by which the dump's own 'gosem.cut.vars' lays the variable. In a bare row this is a premise. The card (YtjekbomlpcdojaaGreatDoorCards.lean) ties it to the program's text. -/
def laid_io_EOF {H : Type} : DataW H := .iface "*errors.errorString" (.ptr (.agg [.lit (.string [69, 79, 70])]))
def laid_io_ErrUnexpectedEOF {H : Type} : DataW H := .iface "*errors.errorString" (.ptr (.agg [.lit (.string [117, 110, 101, 120, 112, 101, 99, 116, 101, 100, 32, 69, 79, 70])]))
def laid_bytes_ErrTooLarge {H : Type} : DataW H := .iface "*errors.errorString" (.ptr (.agg [.lit (.string [98, 121, 116, 101, 115, 46, 66, 117, 102, 102, 101, 114, 58, 32, 116, 111, 111, 32, 108, 97, 114, 103, 101])]))

/-- 'laws.FnReadBinary': WHATEVER THE INPUT: true; the input reads as it did. -/
def fnReadBinarySpec : ChangeSpec := { name := "fnReadBinary", fn := fun _ => fun
  | [d1, d2, d3] => { results := [.lit (.bool true)], args := [d1, d2, d3] }
  | _ => none }
def fnReadBinaryRow : OpenClaim := { program := "ytjekbomlpcdojaagreatdoor", sum := "e9a5f652316af3e7205b164a9990bf90e2fdfe933f336e0adbc5a4b3760d3cd6", func := "pub-twineward/laws.FnReadBinary", spec := "fnReadBinary", inPlace := ["math.Float64frombits", "math.Float64bits"], unfollowed := true, recurses := true, named := ["io.EOF", "io.ErrUnexpectedEOF", "bytes.ErrTooLarge"], apart := false, laid := [("io.EOF", laid_io_EOF), ("io.ErrUnexpectedEOF", laid_io_ErrUnexpectedEOF), ("bytes.ErrTooLarge", laid_bytes_ErrTooLarge)] }
def FnReadBinarySaid : Prop := fnReadBinaryRow.holds Tryz.pinned (OpenSpec.ofChange fnReadBinarySpec)

/-- ITS FALSE NEIGHBOUR: 'it returns false'. Refute it at one input. -/
def fnReadBinaryWrong : ChangeSpec := { name := "fnReadBinary", fn := fun _ => fun
  | [d1, d2, d3] => { results := [.lit (.bool false)], args := [d1, d2, d3] }
  | _ => none }
def FnReadBinaryWrongFalsely : Prop := fnReadBinaryRow.holds Tryz.pinned (OpenSpec.ofChange fnReadBinaryWrong)

/-- 'laws.FnReadCompact': WHATEVER THE INPUT: true; the input reads as it did. -/
def fnReadCompactSpec : ChangeSpec := { name := "fnReadCompact", fn := fun _ => fun
  | [d1, d2, d3] => { results := [.lit (.bool true)], args := [d1, d2, d3] }
  | _ => none }
def fnReadCompactRow : OpenClaim := { program := "ytjekbomlpcdojaagreatdoor", sum := "e9a5f652316af3e7205b164a9990bf90e2fdfe933f336e0adbc5a4b3760d3cd6", func := "pub-twineward/laws.FnReadCompact", spec := "fnReadCompact", inPlace := ["math.Float64frombits", "math.Float64bits"], unfollowed := true, recurses := true, named := ["io.EOF", "io.ErrUnexpectedEOF", "bytes.ErrTooLarge"], apart := false, laid := [("io.EOF", laid_io_EOF), ("io.ErrUnexpectedEOF", laid_io_ErrUnexpectedEOF), ("bytes.ErrTooLarge", laid_bytes_ErrTooLarge)] }
def FnReadCompactSaid : Prop := fnReadCompactRow.holds Tryz.pinned (OpenSpec.ofChange fnReadCompactSpec)

/-- ITS FALSE NEIGHBOUR: 'it returns false'. Refute it at one input. -/
def fnReadCompactWrong : ChangeSpec := { name := "fnReadCompact", fn := fun _ => fun
  | [d1, d2, d3] => { results := [.lit (.bool false)], args := [d1, d2, d3] }
  | _ => none }
def FnReadCompactWrongFalsely : Prop := fnReadCompactRow.holds Tryz.pinned (OpenSpec.ofChange fnReadCompactWrong)

/-- 'laws.FnDeserial': WHATEVER THE INPUT: true; the input reads as it did. -/
def fnDeserialSpec : ChangeSpec := { name := "fnDeserial", fn := fun _ => fun
  | [d1, d2, d3] => { results := [.lit (.bool true)], args := [d1, d2, d3] }
  | _ => none }
def fnDeserialRow : OpenClaim := { program := "ytjekbomlpcdojaagreatdoor", sum := "e9a5f652316af3e7205b164a9990bf90e2fdfe933f336e0adbc5a4b3760d3cd6", func := "pub-twineward/laws.FnDeserial", spec := "fnDeserial", inPlace := ["math.Float64frombits", "math.Float64bits"], unfollowed := true, recurses := true, named := ["io.EOF", "io.ErrUnexpectedEOF", "bytes.ErrTooLarge"], apart := false, laid := [("io.EOF", laid_io_EOF), ("io.ErrUnexpectedEOF", laid_io_ErrUnexpectedEOF), ("bytes.ErrTooLarge", laid_bytes_ErrTooLarge)] }
def FnDeserialSaid : Prop := fnDeserialRow.holds Tryz.pinned (OpenSpec.ofChange fnDeserialSpec)

/-- ITS FALSE NEIGHBOUR: 'it returns false'. Refute it at one input. -/
def fnDeserialWrong : ChangeSpec := { name := "fnDeserial", fn := fun _ => fun
  | [d1, d2, d3] => { results := [.lit (.bool false)], args := [d1, d2, d3] }
  | _ => none }
def FnDeserialWrongFalsely : Prop := fnDeserialRow.holds Tryz.pinned (OpenSpec.ofChange fnDeserialWrong)

/-- 'laws.FnDispatch': WHATEVER THE INPUT: true; the input reads as it did. -/
def fnDispatchSpec : ChangeSpec := { name := "fnDispatch", fn := fun _ => fun
  | [d1, d2, d3, d4] => { results := [.lit (.bool true)], args := [d1, d2, d3, d4] }
  | _ => none }
def fnDispatchRow : OpenClaim := { program := "ytjekbomlpcdojaagreatdoor", sum := "e9a5f652316af3e7205b164a9990bf90e2fdfe933f336e0adbc5a4b3760d3cd6", func := "pub-twineward/laws.FnDispatch", spec := "fnDispatch", inPlace := ["math.Float64frombits", "math.Float64bits"], unfollowed := true, recurses := true, named := ["io.EOF", "io.ErrUnexpectedEOF", "bytes.ErrTooLarge"], apart := false, laid := [("io.EOF", laid_io_EOF), ("io.ErrUnexpectedEOF", laid_io_ErrUnexpectedEOF), ("bytes.ErrTooLarge", laid_bytes_ErrTooLarge)] }
def FnDispatchSaid : Prop := fnDispatchRow.holds Tryz.pinned (OpenSpec.ofChange fnDispatchSpec)

/-- ITS FALSE NEIGHBOUR: 'it returns false'. Refute it at one input. -/
def fnDispatchWrong : ChangeSpec := { name := "fnDispatch", fn := fun _ => fun
  | [d1, d2, d3, d4] => { results := [.lit (.bool false)], args := [d1, d2, d3, d4] }
  | _ => none }
def FnDispatchWrongFalsely : Prop := fnDispatchRow.holds Tryz.pinned (OpenSpec.ofChange fnDispatchWrong)

/-- 'laws.FnCalls': WHATEVER THE INPUT: true; the input reads as it did. -/
def fnCallsSpec : ChangeSpec := { name := "fnCalls", fn := fun _ => fun
  | [d1, d2, d3, d4, d5] => { results := [.lit (.bool true)], args := [d1, d2, d3, d4, d5] }
  | _ => none }
def fnCallsRow : OpenClaim := { program := "ytjekbomlpcdojaagreatdoor", sum := "e9a5f652316af3e7205b164a9990bf90e2fdfe933f336e0adbc5a4b3760d3cd6", func := "pub-twineward/laws.FnCalls", spec := "fnCalls", inPlace := ["math.Float64frombits", "math.Float64bits"], unfollowed := true, recurses := true, named := ["io.EOF", "io.ErrUnexpectedEOF", "bytes.ErrTooLarge"], loops := true, apart := false, laid := [("io.EOF", laid_io_EOF), ("io.ErrUnexpectedEOF", laid_io_ErrUnexpectedEOF), ("bytes.ErrTooLarge", laid_bytes_ErrTooLarge)] }
def FnCallsSaid : Prop := fnCallsRow.holds Tryz.pinned (OpenSpec.ofChange fnCallsSpec)

/-- ITS FALSE NEIGHBOUR: 'it returns false'. Refute it at one input. -/
def fnCallsWrong : ChangeSpec := { name := "fnCalls", fn := fun _ => fun
  | [d1, d2, d3, d4, d5] => { results := [.lit (.bool false)], args := [d1, d2, d3, d4, d5] }
  | _ => none }
def FnCallsWrongFalsely : Prop := fnCallsRow.holds Tryz.pinned (OpenSpec.ofChange fnCallsWrong)

/- THE SECOND FORM. 'bulk': how many values and letters a reading holds, each counted each time it is reached (what is shared counts as often as it is met; a slice's spare places count too). A statement '..UptoSaid' is the law's where the arguments, and the package variables that the reading takes, are together of bulk at most 1048576: NARROWER than '..Said'. Prove '..Said' where nothing that the law and all that it calls make is longer than what came in: it says more and counts as full. Else prove '..UptoSaid'. A law counts once. -/
mutual
def uptoBulk {H : Type} : DataW H → Nat
  | .lit (.string bytes) => bytes.length + 1
  | .lit _ => 1
  | .nil => 1
  | .ptr d => uptoBulk d + 1
  | .slice elems spare => uptoBulkAll elems + uptoBulkAll spare + 1
  | .agg parts => uptoBulkAll parts + 1
  | .iface _ d => uptoBulk d + 1
  | .map entries => uptoBulkEntries entries + 1
  | .held _ => 1
def uptoBulkAll {H : Type} : List (DataW H) → Nat
  | [] => 0
  | d :: r => uptoBulk d + uptoBulkAll r
def uptoBulkEntries {H : Type} : List (Lit × DataW H) → Nat
  | [] => 0
  | x :: r => uptoBulkEntry x + uptoBulkEntries r
def uptoBulkEntry {H : Type} : Lit × DataW H → Nat
  | (.string bytes, d) => bytes.length + uptoBulk d + 1
  | (_, d) => uptoBulk d + 1
 end
def uptoSmall : (H : Type) → List (DataW H) → Bool := fun _ ds => decide (uptoBulkAll ds ≤ 1048576)
def OpenSpec.upto (s : _root_.Go.ChangeSpec) : _root_.Go.OpenSpec := { _root_.Go.OpenSpec.ofChange s with cond := some uptoSmall }

/-- 'laws.FnReadBinary', WHERE WHAT IT READS IS OF BULK AT MOST 1048576: true; the input reads as it did. -/
def fnReadBinaryUptoRow : OpenClaim := { program := "ytjekbomlpcdojaagreatdoor", sum := "e9a5f652316af3e7205b164a9990bf90e2fdfe933f336e0adbc5a4b3760d3cd6", func := "pub-twineward/laws.FnReadBinary", spec := "fnReadBinary", inPlace := ["math.Float64frombits", "math.Float64bits"], unfollowed := true, recurses := true, named := ["io.EOF", "io.ErrUnexpectedEOF", "bytes.ErrTooLarge"], apart := false, laid := [("io.EOF", laid_io_EOF), ("io.ErrUnexpectedEOF", laid_io_ErrUnexpectedEOF), ("bytes.ErrTooLarge", laid_bytes_ErrTooLarge)], narrowed := true }
def FnReadBinaryUptoSaid : Prop := fnReadBinaryUptoRow.holds Tryz.pinned (OpenSpec.upto fnReadBinarySpec)

/-- 'laws.FnReadCompact', WHERE WHAT IT READS IS OF BULK AT MOST 1048576: true; the input reads as it did. -/
def fnReadCompactUptoRow : OpenClaim := { program := "ytjekbomlpcdojaagreatdoor", sum := "e9a5f652316af3e7205b164a9990bf90e2fdfe933f336e0adbc5a4b3760d3cd6", func := "pub-twineward/laws.FnReadCompact", spec := "fnReadCompact", inPlace := ["math.Float64frombits", "math.Float64bits"], unfollowed := true, recurses := true, named := ["io.EOF", "io.ErrUnexpectedEOF", "bytes.ErrTooLarge"], apart := false, laid := [("io.EOF", laid_io_EOF), ("io.ErrUnexpectedEOF", laid_io_ErrUnexpectedEOF), ("bytes.ErrTooLarge", laid_bytes_ErrTooLarge)], narrowed := true }
def FnReadCompactUptoSaid : Prop := fnReadCompactUptoRow.holds Tryz.pinned (OpenSpec.upto fnReadCompactSpec)

/-- 'laws.FnDeserial', WHERE WHAT IT READS IS OF BULK AT MOST 1048576: true; the input reads as it did. -/
def fnDeserialUptoRow : OpenClaim := { program := "ytjekbomlpcdojaagreatdoor", sum := "e9a5f652316af3e7205b164a9990bf90e2fdfe933f336e0adbc5a4b3760d3cd6", func := "pub-twineward/laws.FnDeserial", spec := "fnDeserial", inPlace := ["math.Float64frombits", "math.Float64bits"], unfollowed := true, recurses := true, named := ["io.EOF", "io.ErrUnexpectedEOF", "bytes.ErrTooLarge"], apart := false, laid := [("io.EOF", laid_io_EOF), ("io.ErrUnexpectedEOF", laid_io_ErrUnexpectedEOF), ("bytes.ErrTooLarge", laid_bytes_ErrTooLarge)], narrowed := true }
def FnDeserialUptoSaid : Prop := fnDeserialUptoRow.holds Tryz.pinned (OpenSpec.upto fnDeserialSpec)

/-- 'laws.FnDispatch', WHERE WHAT IT READS IS OF BULK AT MOST 1048576: true; the input reads as it did. -/
def fnDispatchUptoRow : OpenClaim := { program := "ytjekbomlpcdojaagreatdoor", sum := "e9a5f652316af3e7205b164a9990bf90e2fdfe933f336e0adbc5a4b3760d3cd6", func := "pub-twineward/laws.FnDispatch", spec := "fnDispatch", inPlace := ["math.Float64frombits", "math.Float64bits"], unfollowed := true, recurses := true, named := ["io.EOF", "io.ErrUnexpectedEOF", "bytes.ErrTooLarge"], apart := false, laid := [("io.EOF", laid_io_EOF), ("io.ErrUnexpectedEOF", laid_io_ErrUnexpectedEOF), ("bytes.ErrTooLarge", laid_bytes_ErrTooLarge)], narrowed := true }
def FnDispatchUptoSaid : Prop := fnDispatchUptoRow.holds Tryz.pinned (OpenSpec.upto fnDispatchSpec)

/-- 'laws.FnCalls', WHERE WHAT IT READS IS OF BULK AT MOST 1048576: true; the input reads as it did. -/
def fnCallsUptoRow : OpenClaim := { program := "ytjekbomlpcdojaagreatdoor", sum := "e9a5f652316af3e7205b164a9990bf90e2fdfe933f336e0adbc5a4b3760d3cd6", func := "pub-twineward/laws.FnCalls", spec := "fnCalls", inPlace := ["math.Float64frombits", "math.Float64bits"], unfollowed := true, recurses := true, named := ["io.EOF", "io.ErrUnexpectedEOF", "bytes.ErrTooLarge"], loops := true, apart := false, laid := [("io.EOF", laid_io_EOF), ("io.ErrUnexpectedEOF", laid_io_ErrUnexpectedEOF), ("bytes.ErrTooLarge", laid_bytes_ErrTooLarge)], narrowed := true }
def FnCallsUptoSaid : Prop := fnCallsUptoRow.holds Tryz.pinned (OpenSpec.upto fnCallsSpec)

end Rows
end Go.Proofs.YtjekbomlpcdojaaGreatDoor
