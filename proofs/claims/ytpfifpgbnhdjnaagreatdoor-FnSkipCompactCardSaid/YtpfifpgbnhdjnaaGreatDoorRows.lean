/-
  NARROWER THAN 'FOR EVERY INPUT', by the rows' own cells (each row's printed sentence says how): FnGetBinary: laid · FnGetCompact: laid · FnSkipCompact: laid · FnReadBinary: laid · FnReadCompact: laid.
  DERIVED. THE GIVEN ROWS OF THIS SEAT. 5 by the template 'for every input the law returns true; each argument reads behind the call as it read before'; 0 by the template 'total and deterministic' (their statements: YtpfifpgbnhdjnaaGreatDoorTotals.lean).
  GIVEN WITH THE SEED: the statements are not yours to turn. If you find one false, say at which input.
  Laid BY PROGRAM, IN A SANDBOX (cutbox-rows.mjs): the forced cells as the released guide's own fill.sh prints them over the translation da5268ab1c68e2bc… (all of the seat's roots in one cut). By AI agents, Wed Nov 11 2026. No macro, syntax, notation, axiom, sorry.
-/
import Derived.Test.YtpfifpgbnhdjnaaGreatDoorChecked
import GoSem.Claim
import GoSem.ClaimJoined
import GoSem.ClaimMapViews
import Derived.JoinedTies
import Derived.KernelRfl
namespace Go.Proofs.YtpfifpgbnhdjnaaGreatDoor
/- THE CELL 'sum', in the pinned program and in every row, IS THE sha256 OF THE DUMP (.gsa) THAT YtpfifpgbnhdjnaaGreatDoorProg.lean LOADS. Nothing in Lean hashes anything: it is a label: what it is worth is what the hold of that sum in a sandbox is worth. -/
noncomputable def Tryz.pinned : Pinned := { name := "ytpfifpgbnhdjnaagreatdoor", sum := "da5268ab1c68e2bc941d596d6cc53b662ea943e08a609fcdcc6580931c3bc78b", checked := Tryz.checked }
namespace Rows
def none {H : Type} : Left H := { results := [], args := [] }

/- WHAT THE LISTED PACKAGE-LEVEL VARIABLES READ AS WHEN THE CALL BEGINS. Each datum BY PROGRAM (the guide's laid-datum.mjs) off the statement by which the dump's own 'gosem.cut.vars' lays the variable. In a bare row this is a premise. The card (YtpfifpgbnhdjnaaGreatDoorCards.lean) ties it to the program's text. -/
def laid_io_EOF {H : Type} : DataW H := .iface "*errors.errorString" (.ptr (.agg [.lit (.string [69, 79, 70])]))
def laid_io_ErrUnexpectedEOF {H : Type} : DataW H := .iface "*errors.errorString" (.ptr (.agg [.lit (.string [117, 110, 101, 120, 112, 101, 99, 116, 101, 100, 32, 69, 79, 70])]))
def laid_bytes_ErrTooLarge {H : Type} : DataW H := .iface "*errors.errorString" (.ptr (.agg [.lit (.string [98, 121, 116, 101, 115, 46, 66, 117, 102, 102, 101, 114, 58, 32, 116, 111, 111, 32, 108, 97, 114, 103, 101])]))

/-- 'laws.FnGetBinary': WHATEVER THE INPUT: true; the input reads as it did. -/
def fnGetBinarySpec : ChangeSpec := { name := "fnGetBinary", fn := fun _ => fun
  | [d1, d2, d3, d4] => { results := [.lit (.bool true)], args := [d1, d2, d3, d4] }
  | _ => none }
def fnGetBinaryRow : OpenClaim := { program := "ytpfifpgbnhdjnaagreatdoor", sum := "da5268ab1c68e2bc941d596d6cc53b662ea943e08a609fcdcc6580931c3bc78b", func := "pub-twineward/laws.FnGetBinary", spec := "fnGetBinary", inPlace := ["math.Float64frombits", "math.Float64bits"], unfollowed := true, recurses := true, named := ["io.EOF", "io.ErrUnexpectedEOF", "bytes.ErrTooLarge"], apart := false, laid := [("io.EOF", laid_io_EOF), ("io.ErrUnexpectedEOF", laid_io_ErrUnexpectedEOF), ("bytes.ErrTooLarge", laid_bytes_ErrTooLarge)] }
def FnGetBinarySaid : Prop := fnGetBinaryRow.holds Tryz.pinned (OpenSpec.ofChange fnGetBinarySpec)

/-- ITS FALSE NEIGHBOUR: 'it returns false'. Refute it at one input. -/
def fnGetBinaryWrong : ChangeSpec := { name := "fnGetBinary", fn := fun _ => fun
  | [d1, d2, d3, d4] => { results := [.lit (.bool false)], args := [d1, d2, d3, d4] }
  | _ => none }
def FnGetBinaryWrongFalsely : Prop := fnGetBinaryRow.holds Tryz.pinned (OpenSpec.ofChange fnGetBinaryWrong)

/-- 'laws.FnGetCompact': WHATEVER THE INPUT: true; the input reads as it did. -/
def fnGetCompactSpec : ChangeSpec := { name := "fnGetCompact", fn := fun _ => fun
  | [d1, d2, d3, d4] => { results := [.lit (.bool true)], args := [d1, d2, d3, d4] }
  | _ => none }
def fnGetCompactRow : OpenClaim := { program := "ytpfifpgbnhdjnaagreatdoor", sum := "da5268ab1c68e2bc941d596d6cc53b662ea943e08a609fcdcc6580931c3bc78b", func := "pub-twineward/laws.FnGetCompact", spec := "fnGetCompact", inPlace := ["math.Float64frombits", "math.Float64bits"], unfollowed := true, recurses := true, named := ["io.EOF", "io.ErrUnexpectedEOF", "bytes.ErrTooLarge"], apart := false, laid := [("io.EOF", laid_io_EOF), ("io.ErrUnexpectedEOF", laid_io_ErrUnexpectedEOF), ("bytes.ErrTooLarge", laid_bytes_ErrTooLarge)] }
def FnGetCompactSaid : Prop := fnGetCompactRow.holds Tryz.pinned (OpenSpec.ofChange fnGetCompactSpec)

/-- ITS FALSE NEIGHBOUR: 'it returns false'. Refute it at one input. -/
def fnGetCompactWrong : ChangeSpec := { name := "fnGetCompact", fn := fun _ => fun
  | [d1, d2, d3, d4] => { results := [.lit (.bool false)], args := [d1, d2, d3, d4] }
  | _ => none }
def FnGetCompactWrongFalsely : Prop := fnGetCompactRow.holds Tryz.pinned (OpenSpec.ofChange fnGetCompactWrong)

/-- 'laws.FnSkipCompact': WHATEVER THE INPUT: true; the input reads as it did. -/
def fnSkipCompactSpec : ChangeSpec := { name := "fnSkipCompact", fn := fun _ => fun
  | [d1, d2, d3, d4] => { results := [.lit (.bool true)], args := [d1, d2, d3, d4] }
  | _ => none }
def fnSkipCompactRow : OpenClaim := { program := "ytpfifpgbnhdjnaagreatdoor", sum := "da5268ab1c68e2bc941d596d6cc53b662ea943e08a609fcdcc6580931c3bc78b", func := "pub-twineward/laws.FnSkipCompact", spec := "fnSkipCompact", inPlace := ["math.Float64frombits", "math.Float64bits"], unfollowed := true, recurses := true, named := ["io.EOF", "io.ErrUnexpectedEOF", "bytes.ErrTooLarge"], apart := false, laid := [("io.EOF", laid_io_EOF), ("io.ErrUnexpectedEOF", laid_io_ErrUnexpectedEOF), ("bytes.ErrTooLarge", laid_bytes_ErrTooLarge)] }
def FnSkipCompactSaid : Prop := fnSkipCompactRow.holds Tryz.pinned (OpenSpec.ofChange fnSkipCompactSpec)

/-- ITS FALSE NEIGHBOUR: 'it returns false'. Refute it at one input. -/
def fnSkipCompactWrong : ChangeSpec := { name := "fnSkipCompact", fn := fun _ => fun
  | [d1, d2, d3, d4] => { results := [.lit (.bool false)], args := [d1, d2, d3, d4] }
  | _ => none }
def FnSkipCompactWrongFalsely : Prop := fnSkipCompactRow.holds Tryz.pinned (OpenSpec.ofChange fnSkipCompactWrong)

/-- 'laws.FnReadBinary': WHATEVER THE INPUT: true; the input reads as it did. -/
def fnReadBinarySpec : ChangeSpec := { name := "fnReadBinary", fn := fun _ => fun
  | [d1, d2, d3] => { results := [.lit (.bool true)], args := [d1, d2, d3] }
  | _ => none }
def fnReadBinaryRow : OpenClaim := { program := "ytpfifpgbnhdjnaagreatdoor", sum := "da5268ab1c68e2bc941d596d6cc53b662ea943e08a609fcdcc6580931c3bc78b", func := "pub-twineward/laws.FnReadBinary", spec := "fnReadBinary", inPlace := ["math.Float64frombits", "math.Float64bits"], unfollowed := true, recurses := true, named := ["io.EOF", "io.ErrUnexpectedEOF", "bytes.ErrTooLarge"], apart := false, laid := [("io.EOF", laid_io_EOF), ("io.ErrUnexpectedEOF", laid_io_ErrUnexpectedEOF), ("bytes.ErrTooLarge", laid_bytes_ErrTooLarge)] }
def FnReadBinarySaid : Prop := fnReadBinaryRow.holds Tryz.pinned (OpenSpec.ofChange fnReadBinarySpec)

/-- ITS FALSE NEIGHBOUR: 'it returns false'. Refute it at one input. -/
def fnReadBinaryWrong : ChangeSpec := { name := "fnReadBinary", fn := fun _ => fun
  | [d1, d2, d3] => { results := [.lit (.bool false)], args := [d1, d2, d3] }
  | _ => none }
def FnReadBinaryWrongFalsely : Prop := fnReadBinaryRow.holds Tryz.pinned (OpenSpec.ofChange fnReadBinaryWrong)

/-- 'laws.FnReadCompact': WHATEVER THE INPUT: true; the input reads as it did. -/
def fnReadCompactSpec : ChangeSpec := { name := "fnReadCompact", fn := fun _ => fun
  | [d1, d2, d3] => { results := [.lit (.bool true)], args := [d1, d2, d3] }
  | _ => none }
def fnReadCompactRow : OpenClaim := { program := "ytpfifpgbnhdjnaagreatdoor", sum := "da5268ab1c68e2bc941d596d6cc53b662ea943e08a609fcdcc6580931c3bc78b", func := "pub-twineward/laws.FnReadCompact", spec := "fnReadCompact", inPlace := ["math.Float64frombits", "math.Float64bits"], unfollowed := true, recurses := true, named := ["io.EOF", "io.ErrUnexpectedEOF", "bytes.ErrTooLarge"], apart := false, laid := [("io.EOF", laid_io_EOF), ("io.ErrUnexpectedEOF", laid_io_ErrUnexpectedEOF), ("bytes.ErrTooLarge", laid_bytes_ErrTooLarge)] }
def FnReadCompactSaid : Prop := fnReadCompactRow.holds Tryz.pinned (OpenSpec.ofChange fnReadCompactSpec)

/-- ITS FALSE NEIGHBOUR: 'it returns false'. Refute it at one input. -/
def fnReadCompactWrong : ChangeSpec := { name := "fnReadCompact", fn := fun _ => fun
  | [d1, d2, d3] => { results := [.lit (.bool false)], args := [d1, d2, d3] }
  | _ => none }
def FnReadCompactWrongFalsely : Prop := fnReadCompactRow.holds Tryz.pinned (OpenSpec.ofChange fnReadCompactWrong)

/- THE SECOND FORM. 'bulk': how many values and letters a reading holds, each counted each time it is reached (what is shared counts as often as it is met; a slice's spare places count too). A statement '..UptoSaid' is the law's where the arguments, and the package variables that the reading takes, are together of bulk at most 1048576: NARROWER than '..Said'. Prove '..Said' where nothing that the law and all that it calls make is longer than what came in: it says more and counts as full. Else prove '..UptoSaid'. A law counts once. -/
mutual
def uptoBulk {H : Type} : DataW H → Nat
  | .lit (.string bytes) => bytes.length + 1
  | .lit _ => 1
  | .nil => 1
  | .ptr d => uptoBulk d + 1
  | .slice elems spare => uptoBulkAll elems + uptoBulkAll spare + 1
  | .agg parts => uptoBulkAll parts + 1
  | .iface _ d => uptoBulk d + 1
  | .map entries => uptoBulkEntries entries + 1
  | .held _ => 1
def uptoBulkAll {H : Type} : List (DataW H) → Nat
  | [] => 0
  | d :: r => uptoBulk d + uptoBulkAll r
def uptoBulkEntries {H : Type} : List (Lit × DataW H) → Nat
  | [] => 0
  | x :: r => uptoBulkEntry x + uptoBulkEntries r
def uptoBulkEntry {H : Type} : Lit × DataW H → Nat
  | (.string bytes, d) => bytes.length + uptoBulk d + 1
  | (_, d) => uptoBulk d + 1
 end
def uptoSmall : (H : Type) → List (DataW H) → Bool := fun _ ds => decide (uptoBulkAll ds ≤ 1048576)
def OpenSpec.upto (s : _root_.Go.ChangeSpec) : _root_.Go.OpenSpec := { _root_.Go.OpenSpec.ofChange s with cond := some uptoSmall }

/-- 'laws.FnGetBinary', WHERE WHAT IT READS IS OF BULK AT MOST 1048576: true; the input reads as it did. -/
def fnGetBinaryUptoRow : OpenClaim := { program := "ytpfifpgbnhdjnaagreatdoor", sum := "da5268ab1c68e2bc941d596d6cc53b662ea943e08a609fcdcc6580931c3bc78b", func := "pub-twineward/laws.FnGetBinary", spec := "fnGetBinary", inPlace := ["math.Float64frombits", "math.Float64bits"], unfollowed := true, recurses := true, named := ["io.EOF", "io.ErrUnexpectedEOF", "bytes.ErrTooLarge"], apart := false, laid := [("io.EOF", laid_io_EOF), ("io.ErrUnexpectedEOF", laid_io_ErrUnexpectedEOF), ("bytes.ErrTooLarge", laid_bytes_ErrTooLarge)], narrowed := true }
def FnGetBinaryUptoSaid : Prop := fnGetBinaryUptoRow.holds Tryz.pinned (OpenSpec.upto fnGetBinarySpec)

/-- 'laws.FnGetCompact', WHERE WHAT IT READS IS OF BULK AT MOST 1048576: true; the input reads as it did. -/
def fnGetCompactUptoRow : OpenClaim := { program := "ytpfifpgbnhdjnaagreatdoor", sum := "da5268ab1c68e2bc941d596d6cc53b662ea943e08a609fcdcc6580931c3bc78b", func := "pub-twineward/laws.FnGetCompact", spec := "fnGetCompact", inPlace := ["math.Float64frombits", "math.Float64bits"], unfollowed := true, recurses := true, named := ["io.EOF", "io.ErrUnexpectedEOF", "bytes.ErrTooLarge"], apart := false, laid := [("io.EOF", laid_io_EOF), ("io.ErrUnexpectedEOF", laid_io_ErrUnexpectedEOF), ("bytes.ErrTooLarge", laid_bytes_ErrTooLarge)], narrowed := true }
def FnGetCompactUptoSaid : Prop := fnGetCompactUptoRow.holds Tryz.pinned (OpenSpec.upto fnGetCompactSpec)

/-- 'laws.FnSkipCompact', WHERE WHAT IT READS IS OF BULK AT MOST 1048576: true; the input reads as it did. -/
def fnSkipCompactUptoRow : OpenClaim := { program := "ytpfifpgbnhdjnaagreatdoor", sum := "da5268ab1c68e2bc941d596d6cc53b662ea943e08a609fcdcc6580931c3bc78b", func := "pub-twineward/laws.FnSkipCompact", spec := "fnSkipCompact", inPlace := ["math.Float64frombits", "math.Float64bits"], unfollowed := true, recurses := true, named := ["io.EOF", "io.ErrUnexpectedEOF", "bytes.ErrTooLarge"], apart := false, laid := [("io.EOF", laid_io_EOF), ("io.ErrUnexpectedEOF", laid_io_ErrUnexpectedEOF), ("bytes.ErrTooLarge", laid_bytes_ErrTooLarge)], narrowed := true }
def FnSkipCompactUptoSaid : Prop := fnSkipCompactUptoRow.holds Tryz.pinned (OpenSpec.upto fnSkipCompactSpec)

/-- 'laws.FnReadBinary', WHERE WHAT IT READS IS OF BULK AT MOST 1048576: true; the input reads as it did. -/
def fnReadBinaryUptoRow : OpenClaim := { program := "ytpfifpgbnhdjnaagreatdoor", sum := "da5268ab1c68e2bc941d596d6cc53b662ea943e08a609fcdcc6580931c3bc78b", func := "pub-twineward/laws.FnReadBinary", spec := "fnReadBinary", inPlace := ["math.Float64frombits", "math.Float64bits"], unfollowed := true, recurses := true, named := ["io.EOF", "io.ErrUnexpectedEOF", "bytes.ErrTooLarge"], apart := false, laid := [("io.EOF", laid_io_EOF), ("io.ErrUnexpectedEOF", laid_io_ErrUnexpectedEOF), ("bytes.ErrTooLarge", laid_bytes_ErrTooLarge)], narrowed := true }
def FnReadBinaryUptoSaid : Prop := fnReadBinaryUptoRow.holds Tryz.pinned (OpenSpec.upto fnReadBinarySpec)

/-- 'laws.FnReadCompact', WHERE WHAT IT READS IS OF BULK AT MOST 1048576: true; the input reads as it did. -/
def fnReadCompactUptoRow : OpenClaim := { program := "ytpfifpgbnhdjnaagreatdoor", sum := "da5268ab1c68e2bc941d596d6cc53b662ea943e08a609fcdcc6580931c3bc78b", func := "pub-twineward/laws.FnReadCompact", spec := "fnReadCompact", inPlace := ["math.Float64frombits", "math.Float64bits"], unfollowed := true, recurses := true, named := ["io.EOF", "io.ErrUnexpectedEOF", "bytes.ErrTooLarge"], apart := false, laid := [("io.EOF", laid_io_EOF), ("io.ErrUnexpectedEOF", laid_io_ErrUnexpectedEOF), ("bytes.ErrTooLarge", laid_bytes_ErrTooLarge)], narrowed := true }
def FnReadCompactUptoSaid : Prop := fnReadCompactUptoRow.holds Tryz.pinned (OpenSpec.upto fnReadCompactSpec)

end Rows
end Go.Proofs.YtpfifpgbnhdjnaaGreatDoor
