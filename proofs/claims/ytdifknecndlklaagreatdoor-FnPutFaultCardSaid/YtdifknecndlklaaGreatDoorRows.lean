/-
  NARROWER THAN 'FOR EVERY INPUT', by the rows' own cells (each row's printed sentence says how): FnPutFault: laid · FnSerial: loops, laid · FnApart: loops, laid · FnBinaryMessages: laid · FnLimitLists: laid · FnSkipGets: laid · FnCuts: loops, laid.
  DERIVED. THE GIVEN ROWS OF THIS SEAT. 7 by the template 'for every input the law returns true; each argument reads behind the call as it read before'; 0 by the template 'total and deterministic' (their statements: YtdifknecndlklaaGreatDoorTotals.lean).
  GIVEN WITH THE SEED: the statements are not yours to turn. If you find one false, say at which input.
  Laid BY PROGRAM, IN A SANDBOX (cutbox-rows.mjs): the forced cells as the released guide's own fill.sh prints them over the translation c3ab6b711117a94f… (all of the seat's roots in one cut). By AI agents, Wed Nov 11 2026. No macro, syntax, notation, axiom, sorry.
-/
import Derived.Test.YtdifknecndlklaaGreatDoorChecked
import GoSem.Claim
import GoSem.ClaimJoined
import GoSem.ClaimMapViews
import Derived.JoinedTies
import Derived.KernelRfl
namespace Go.Proofs.YtdifknecndlklaaGreatDoor
/- THE CELL 'sum', in the pinned program and in every row, IS THE sha256 OF THE DUMP (.gsa) THAT YtdifknecndlklaaGreatDoorProg.lean LOADS. Nothing in Lean hashes anything: it is a label: what it is worth is what the hold of that sum in a sandbox is worth. -/
noncomputable def Tryz.pinned : Pinned := { name := "ytdifknecndlklaagreatdoor", sum := "c3ab6b711117a94f081d5e0d9d864d693f776ced6934f67ad3059f6be1709944", checked := Tryz.checked }
namespace Rows
def none {H : Type} : Left H := { results := [], args := [] }

/- WHAT THE LISTED PACKAGE-LEVEL VARIABLES READ AS WHEN THE CALL BEGINS. Each datum BY PROGRAM (the guide's laid-datum.mjs) off the statement by which the dump's own 'gosem.cut.vars' lays the variable. In a bare row this is a premise. The card (YtdifknecndlklaaGreatDoorCards.lean) ties it to the program's text. -/
def laid_io_EOF {H : Type} : DataW H := .iface "*errors.errorString" (.ptr (.agg [.lit (.string [69, 79, 70])]))
def laid_io_ErrUnexpectedEOF {H : Type} : DataW H := .iface "*errors.errorString" (.ptr (.agg [.lit (.string [117, 110, 101, 120, 112, 101, 99, 116, 101, 100, 32, 69, 79, 70])]))
def laid_bytes_ErrTooLarge {H : Type} : DataW H := .iface "*errors.errorString" (.ptr (.agg [.lit (.string [98, 121, 116, 101, 115, 46, 66, 117, 102, 102, 101, 114, 58, 32, 116, 111, 111, 32, 108, 97, 114, 103, 101])]))

/-- 'laws.FnPutFault': WHATEVER THE INPUT: true; the input reads as it did. -/
def fnPutFaultSpec : ChangeSpec := { name := "fnPutFault", fn := fun _ => fun
  | [d1, d2, d3] => { results := [.lit (.bool true)], args := [d1, d2, d3] }
  | _ => none }
def fnPutFaultRow : OpenClaim := { program := "ytdifknecndlklaagreatdoor", sum := "c3ab6b711117a94f081d5e0d9d864d693f776ced6934f67ad3059f6be1709944", func := "pub-twineward/laws.FnPutFault", spec := "fnPutFault", inPlace := ["math.Float64frombits", "math.Float64bits"], unfollowed := true, recurses := true, named := ["io.EOF", "io.ErrUnexpectedEOF", "bytes.ErrTooLarge"], apart := false, laid := [("io.EOF", laid_io_EOF), ("io.ErrUnexpectedEOF", laid_io_ErrUnexpectedEOF), ("bytes.ErrTooLarge", laid_bytes_ErrTooLarge)] }
def FnPutFaultSaid : Prop := fnPutFaultRow.holds Tryz.pinned (OpenSpec.ofChange fnPutFaultSpec)

/-- ITS FALSE NEIGHBOUR: 'it returns false'. Refute it at one input. -/
def fnPutFaultWrong : ChangeSpec := { name := "fnPutFault", fn := fun _ => fun
  | [d1, d2, d3] => { results := [.lit (.bool false)], args := [d1, d2, d3] }
  | _ => none }
def FnPutFaultWrongFalsely : Prop := fnPutFaultRow.holds Tryz.pinned (OpenSpec.ofChange fnPutFaultWrong)

/-- 'laws.FnSerial': WHATEVER THE INPUT: true; the input reads as it did. -/
def fnSerialSpec : ChangeSpec := { name := "fnSerial", fn := fun _ => fun
  | [d1, d2] => { results := [.lit (.bool true)], args := [d1, d2] }
  | _ => none }
def fnSerialRow : OpenClaim := { program := "ytdifknecndlklaagreatdoor", sum := "c3ab6b711117a94f081d5e0d9d864d693f776ced6934f67ad3059f6be1709944", func := "pub-twineward/laws.FnSerial", spec := "fnSerial", inPlace := ["math.Float64frombits", "math.Float64bits"], unfollowed := true, recurses := true, named := ["io.EOF", "io.ErrUnexpectedEOF", "bytes.ErrTooLarge"], loops := true, apart := false, laid := [("io.EOF", laid_io_EOF), ("io.ErrUnexpectedEOF", laid_io_ErrUnexpectedEOF), ("bytes.ErrTooLarge", laid_bytes_ErrTooLarge)] }
def FnSerialSaid : Prop := fnSerialRow.holds Tryz.pinned (OpenSpec.ofChange fnSerialSpec)

/-- ITS FALSE NEIGHBOUR: 'it returns false'. Refute it at one input. -/
def fnSerialWrong : ChangeSpec := { name := "fnSerial", fn := fun _ => fun
  | [d1, d2] => { results := [.lit (.bool false)], args := [d1, d2] }
  | _ => none }
def FnSerialWrongFalsely : Prop := fnSerialRow.holds Tryz.pinned (OpenSpec.ofChange fnSerialWrong)

/-- 'laws.FnApart': WHATEVER THE INPUT: true; the input reads as it did. -/
def fnApartSpec : ChangeSpec := { name := "fnApart", fn := fun _ => fun
  | [d1, d2, d3] => { results := [.lit (.bool true)], args := [d1, d2, d3] }
  | _ => none }
def fnApartRow : OpenClaim := { program := "ytdifknecndlklaagreatdoor", sum := "c3ab6b711117a94f081d5e0d9d864d693f776ced6934f67ad3059f6be1709944", func := "pub-twineward/laws.FnApart", spec := "fnApart", inPlace := ["math.Float64frombits", "math.Float64bits"], unfollowed := true, recurses := true, named := ["io.EOF", "io.ErrUnexpectedEOF", "bytes.ErrTooLarge"], loops := true, apart := false, laid := [("io.EOF", laid_io_EOF), ("io.ErrUnexpectedEOF", laid_io_ErrUnexpectedEOF), ("bytes.ErrTooLarge", laid_bytes_ErrTooLarge)] }
def FnApartSaid : Prop := fnApartRow.holds Tryz.pinned (OpenSpec.ofChange fnApartSpec)

/-- ITS FALSE NEIGHBOUR: 'it returns false'. Refute it at one input. -/
def fnApartWrong : ChangeSpec := { name := "fnApart", fn := fun _ => fun
  | [d1, d2, d3] => { results := [.lit (.bool false)], args := [d1, d2, d3] }
  | _ => none }
def FnApartWrongFalsely : Prop := fnApartRow.holds Tryz.pinned (OpenSpec.ofChange fnApartWrong)

/-- 'laws.FnBinaryMessages': WHATEVER THE INPUT: true; the input reads as it did. -/
def fnBinaryMessagesSpec : ChangeSpec := { name := "fnBinaryMessages", fn := fun _ => fun
  | [d1, d2, d3, d4, d5] => { results := [.lit (.bool true)], args := [d1, d2, d3, d4, d5] }
  | _ => none }
def fnBinaryMessagesRow : OpenClaim := { program := "ytdifknecndlklaagreatdoor", sum := "c3ab6b711117a94f081d5e0d9d864d693f776ced6934f67ad3059f6be1709944", func := "pub-twineward/laws.FnBinaryMessages", spec := "fnBinaryMessages", inPlace := ["math.Float64frombits", "math.Float64bits"], unfollowed := true, recurses := true, named := ["io.EOF", "io.ErrUnexpectedEOF", "bytes.ErrTooLarge"], apart := false, laid := [("io.EOF", laid_io_EOF), ("io.ErrUnexpectedEOF", laid_io_ErrUnexpectedEOF), ("bytes.ErrTooLarge", laid_bytes_ErrTooLarge)] }
def FnBinaryMessagesSaid : Prop := fnBinaryMessagesRow.holds Tryz.pinned (OpenSpec.ofChange fnBinaryMessagesSpec)

/-- ITS FALSE NEIGHBOUR: 'it returns false'. Refute it at one input. -/
def fnBinaryMessagesWrong : ChangeSpec := { name := "fnBinaryMessages", fn := fun _ => fun
  | [d1, d2, d3, d4, d5] => { results := [.lit (.bool false)], args := [d1, d2, d3, d4, d5] }
  | _ => none }
def FnBinaryMessagesWrongFalsely : Prop := fnBinaryMessagesRow.holds Tryz.pinned (OpenSpec.ofChange fnBinaryMessagesWrong)

/-- 'laws.FnLimitLists': WHATEVER THE INPUT: true; the input reads as it did. -/
def fnLimitListsSpec : ChangeSpec := { name := "fnLimitLists", fn := fun _ => fun
  | [d1, d2, d3] => { results := [.lit (.bool true)], args := [d1, d2, d3] }
  | _ => none }
def fnLimitListsRow : OpenClaim := { program := "ytdifknecndlklaagreatdoor", sum := "c3ab6b711117a94f081d5e0d9d864d693f776ced6934f67ad3059f6be1709944", func := "pub-twineward/laws.FnLimitLists", spec := "fnLimitLists", inPlace := ["math.Float64frombits", "math.Float64bits"], unfollowed := true, recurses := true, named := ["io.EOF", "io.ErrUnexpectedEOF", "bytes.ErrTooLarge"], apart := false, laid := [("io.EOF", laid_io_EOF), ("io.ErrUnexpectedEOF", laid_io_ErrUnexpectedEOF), ("bytes.ErrTooLarge", laid_bytes_ErrTooLarge)] }
def FnLimitListsSaid : Prop := fnLimitListsRow.holds Tryz.pinned (OpenSpec.ofChange fnLimitListsSpec)

/-- ITS FALSE NEIGHBOUR: 'it returns false'. Refute it at one input. -/
def fnLimitListsWrong : ChangeSpec := { name := "fnLimitLists", fn := fun _ => fun
  | [d1, d2, d3] => { results := [.lit (.bool false)], args := [d1, d2, d3] }
  | _ => none }
def FnLimitListsWrongFalsely : Prop := fnLimitListsRow.holds Tryz.pinned (OpenSpec.ofChange fnLimitListsWrong)

/-- 'laws.FnSkipGets': WHATEVER THE INPUT: true; the input reads as it did. -/
def fnSkipGetsSpec : ChangeSpec := { name := "fnSkipGets", fn := fun _ => fun
  | [d1, d2, d3, d4] => { results := [.lit (.bool true)], args := [d1, d2, d3, d4] }
  | _ => none }
def fnSkipGetsRow : OpenClaim := { program := "ytdifknecndlklaagreatdoor", sum := "c3ab6b711117a94f081d5e0d9d864d693f776ced6934f67ad3059f6be1709944", func := "pub-twineward/laws.FnSkipGets", spec := "fnSkipGets", inPlace := ["math.Float64frombits", "math.Float64bits"], unfollowed := true, recurses := true, named := ["io.EOF", "io.ErrUnexpectedEOF", "bytes.ErrTooLarge"], apart := false, laid := [("io.EOF", laid_io_EOF), ("io.ErrUnexpectedEOF", laid_io_ErrUnexpectedEOF), ("bytes.ErrTooLarge", laid_bytes_ErrTooLarge)] }
def FnSkipGetsSaid : Prop := fnSkipGetsRow.holds Tryz.pinned (OpenSpec.ofChange fnSkipGetsSpec)

/-- ITS FALSE NEIGHBOUR: 'it returns false'. Refute it at one input. -/
def fnSkipGetsWrong : ChangeSpec := { name := "fnSkipGets", fn := fun _ => fun
  | [d1, d2, d3, d4] => { results := [.lit (.bool false)], args := [d1, d2, d3, d4] }
  | _ => none }
def FnSkipGetsWrongFalsely : Prop := fnSkipGetsRow.holds Tryz.pinned (OpenSpec.ofChange fnSkipGetsWrong)

/-- 'laws.FnCuts': WHATEVER THE INPUT: true; the input reads as it did. -/
def fnCutsSpec : ChangeSpec := { name := "fnCuts", fn := fun _ => fun
  | [d1, d2, d3] => { results := [.lit (.bool true)], args := [d1, d2, d3] }
  | _ => none }
def fnCutsRow : OpenClaim := { program := "ytdifknecndlklaagreatdoor", sum := "c3ab6b711117a94f081d5e0d9d864d693f776ced6934f67ad3059f6be1709944", func := "pub-twineward/laws.FnCuts", spec := "fnCuts", inPlace := ["math.Float64frombits", "math.Float64bits"], unfollowed := true, recurses := true, named := ["io.EOF", "io.ErrUnexpectedEOF", "bytes.ErrTooLarge"], loops := true, apart := false, laid := [("io.EOF", laid_io_EOF), ("io.ErrUnexpectedEOF", laid_io_ErrUnexpectedEOF), ("bytes.ErrTooLarge", laid_bytes_ErrTooLarge)] }
def FnCutsSaid : Prop := fnCutsRow.holds Tryz.pinned (OpenSpec.ofChange fnCutsSpec)

/-- ITS FALSE NEIGHBOUR: 'it returns false'. Refute it at one input. -/
def fnCutsWrong : ChangeSpec := { name := "fnCuts", fn := fun _ => fun
  | [d1, d2, d3] => { results := [.lit (.bool false)], args := [d1, d2, d3] }
  | _ => none }
def FnCutsWrongFalsely : Prop := fnCutsRow.holds Tryz.pinned (OpenSpec.ofChange fnCutsWrong)

/- THE SECOND FORM. 'bulk': how many values and letters a reading holds, each counted each time it is reached (what is shared counts as often as it is met; a slice's spare places count too). A statement '..UptoSaid' is the law's where the arguments, and the package variables that the reading takes, are together of bulk at most 1048576: NARROWER than '..Said'. Prove '..Said' where nothing that the law and all that it calls make is longer than what came in: it says more and counts as full. Else prove '..UptoSaid'. A law counts once. -/
mutual
def uptoBulk {H : Type} : DataW H → Nat
  | .lit (.string bytes) => bytes.length + 1
  | .lit _ => 1
  | .nil => 1
  | .ptr d => uptoBulk d + 1
  | .slice elems spare => uptoBulkAll elems + uptoBulkAll spare + 1
  | .agg parts => uptoBulkAll parts + 1
  | .iface _ d => uptoBulk d + 1
  | .map entries => uptoBulkEntries entries + 1
  | .held _ => 1
def uptoBulkAll {H : Type} : List (DataW H) → Nat
  | [] => 0
  | d :: r => uptoBulk d + uptoBulkAll r
def uptoBulkEntries {H : Type} : List (Lit × DataW H) → Nat
  | [] => 0
  | x :: r => uptoBulkEntry x + uptoBulkEntries r
def uptoBulkEntry {H : Type} : Lit × DataW H → Nat
  | (.string bytes, d) => bytes.length + uptoBulk d + 1
  | (_, d) => uptoBulk d + 1
 end
def uptoSmall : (H : Type) → List (DataW H) → Bool := fun _ ds => decide (uptoBulkAll ds ≤ 1048576)
def OpenSpec.upto (s : _root_.Go.ChangeSpec) : _root_.Go.OpenSpec := { _root_.Go.OpenSpec.ofChange s with cond := some uptoSmall }

/-- 'laws.FnPutFault', WHERE WHAT IT READS IS OF BULK AT MOST 1048576: true; the input reads as it did. -/
def fnPutFaultUptoRow : OpenClaim := { program := "ytdifknecndlklaagreatdoor", sum := "c3ab6b711117a94f081d5e0d9d864d693f776ced6934f67ad3059f6be1709944", func := "pub-twineward/laws.FnPutFault", spec := "fnPutFault", inPlace := ["math.Float64frombits", "math.Float64bits"], unfollowed := true, recurses := true, named := ["io.EOF", "io.ErrUnexpectedEOF", "bytes.ErrTooLarge"], apart := false, laid := [("io.EOF", laid_io_EOF), ("io.ErrUnexpectedEOF", laid_io_ErrUnexpectedEOF), ("bytes.ErrTooLarge", laid_bytes_ErrTooLarge)], narrowed := true }
def FnPutFaultUptoSaid : Prop := fnPutFaultUptoRow.holds Tryz.pinned (OpenSpec.upto fnPutFaultSpec)

/-- 'laws.FnSerial', WHERE WHAT IT READS IS OF BULK AT MOST 1048576: true; the input reads as it did. -/
def fnSerialUptoRow : OpenClaim := { program := "ytdifknecndlklaagreatdoor", sum := "c3ab6b711117a94f081d5e0d9d864d693f776ced6934f67ad3059f6be1709944", func := "pub-twineward/laws.FnSerial", spec := "fnSerial", inPlace := ["math.Float64frombits", "math.Float64bits"], unfollowed := true, recurses := true, named := ["io.EOF", "io.ErrUnexpectedEOF", "bytes.ErrTooLarge"], loops := true, apart := false, laid := [("io.EOF", laid_io_EOF), ("io.ErrUnexpectedEOF", laid_io_ErrUnexpectedEOF), ("bytes.ErrTooLarge", laid_bytes_ErrTooLarge)], narrowed := true }
def FnSerialUptoSaid : Prop := fnSerialUptoRow.holds Tryz.pinned (OpenSpec.upto fnSerialSpec)

/-- 'laws.FnApart', WHERE WHAT IT READS IS OF BULK AT MOST 1048576: true; the input reads as it did. -/
def fnApartUptoRow : OpenClaim := { program := "ytdifknecndlklaagreatdoor", sum := "c3ab6b711117a94f081d5e0d9d864d693f776ced6934f67ad3059f6be1709944", func := "pub-twineward/laws.FnApart", spec := "fnApart", inPlace := ["math.Float64frombits", "math.Float64bits"], unfollowed := true, recurses := true, named := ["io.EOF", "io.ErrUnexpectedEOF", "bytes.ErrTooLarge"], loops := true, apart := false, laid := [("io.EOF", laid_io_EOF), ("io.ErrUnexpectedEOF", laid_io_ErrUnexpectedEOF), ("bytes.ErrTooLarge", laid_bytes_ErrTooLarge)], narrowed := true }
def FnApartUptoSaid : Prop := fnApartUptoRow.holds Tryz.pinned (OpenSpec.upto fnApartSpec)

/-- 'laws.FnBinaryMessages', WHERE WHAT IT READS IS OF BULK AT MOST 1048576: true; the input reads as it did. -/
def fnBinaryMessagesUptoRow : OpenClaim := { program := "ytdifknecndlklaagreatdoor", sum := "c3ab6b711117a94f081d5e0d9d864d693f776ced6934f67ad3059f6be1709944", func := "pub-twineward/laws.FnBinaryMessages", spec := "fnBinaryMessages", inPlace := ["math.Float64frombits", "math.Float64bits"], unfollowed := true, recurses := true, named := ["io.EOF", "io.ErrUnexpectedEOF", "bytes.ErrTooLarge"], apart := false, laid := [("io.EOF", laid_io_EOF), ("io.ErrUnexpectedEOF", laid_io_ErrUnexpectedEOF), ("bytes.ErrTooLarge", laid_bytes_ErrTooLarge)], narrowed := true }
def FnBinaryMessagesUptoSaid : Prop := fnBinaryMessagesUptoRow.holds Tryz.pinned (OpenSpec.upto fnBinaryMessagesSpec)

/-- 'laws.FnLimitLists', WHERE WHAT IT READS IS OF BULK AT MOST 1048576: true; the input reads as it did. -/
def fnLimitListsUptoRow : OpenClaim := { program := "ytdifknecndlklaagreatdoor", sum := "c3ab6b711117a94f081d5e0d9d864d693f776ced6934f67ad3059f6be1709944", func := "pub-twineward/laws.FnLimitLists", spec := "fnLimitLists", inPlace := ["math.Float64frombits", "math.Float64bits"], unfollowed := true, recurses := true, named := ["io.EOF", "io.ErrUnexpectedEOF", "bytes.ErrTooLarge"], apart := false, laid := [("io.EOF", laid_io_EOF), ("io.ErrUnexpectedEOF", laid_io_ErrUnexpectedEOF), ("bytes.ErrTooLarge", laid_bytes_ErrTooLarge)], narrowed := true }
def FnLimitListsUptoSaid : Prop := fnLimitListsUptoRow.holds Tryz.pinned (OpenSpec.upto fnLimitListsSpec)

/-- 'laws.FnSkipGets', WHERE WHAT IT READS IS OF BULK AT MOST 1048576: true; the input reads as it did. -/
def fnSkipGetsUptoRow : OpenClaim := { program := "ytdifknecndlklaagreatdoor", sum := "c3ab6b711117a94f081d5e0d9d864d693f776ced6934f67ad3059f6be1709944", func := "pub-twineward/laws.FnSkipGets", spec := "fnSkipGets", inPlace := ["math.Float64frombits", "math.Float64bits"], unfollowed := true, recurses := true, named := ["io.EOF", "io.ErrUnexpectedEOF", "bytes.ErrTooLarge"], apart := false, laid := [("io.EOF", laid_io_EOF), ("io.ErrUnexpectedEOF", laid_io_ErrUnexpectedEOF), ("bytes.ErrTooLarge", laid_bytes_ErrTooLarge)], narrowed := true }
def FnSkipGetsUptoSaid : Prop := fnSkipGetsUptoRow.holds Tryz.pinned (OpenSpec.upto fnSkipGetsSpec)

/-- 'laws.FnCuts', WHERE WHAT IT READS IS OF BULK AT MOST 1048576: true; the input reads as it did. -/
def fnCutsUptoRow : OpenClaim := { program := "ytdifknecndlklaagreatdoor", sum := "c3ab6b711117a94f081d5e0d9d864d693f776ced6934f67ad3059f6be1709944", func := "pub-twineward/laws.FnCuts", spec := "fnCuts", inPlace := ["math.Float64frombits", "math.Float64bits"], unfollowed := true, recurses := true, named := ["io.EOF", "io.ErrUnexpectedEOF", "bytes.ErrTooLarge"], loops := true, apart := false, laid := [("io.EOF", laid_io_EOF), ("io.ErrUnexpectedEOF", laid_io_ErrUnexpectedEOF), ("bytes.ErrTooLarge", laid_bytes_ErrTooLarge)], narrowed := true }
def FnCutsUptoSaid : Prop := fnCutsUptoRow.holds Tryz.pinned (OpenSpec.upto fnCutsSpec)

end Rows
end Go.Proofs.YtdifknecndlklaaGreatDoor
