/-
  NARROWER THAN 'FOR EVERY INPUT', by the rows' own cells (each row's printed sentence says how): FnBinaryTexts: laid · FnBinaryMessages: laid · FnBare: laid · FnVarintBack: laid · FnLimitLists: laid · FnPieces: laid · FnPutMessage: loops, laid · FnPutFault: laid · FnSerial: loops, laid · FnSend: loops, laid · FnCompactSizes: loops, laid · FnBoth: loops, laid.
  DERIVED. THE GIVEN ROWS OF THIS SEAT. 12 by the template 'for every input the law returns true; each argument reads behind the call as it read before'; 0 by the template 'total and deterministic' (their statements: YtoikkjefaakchaaGreatDoorTotals.lean).
  GIVEN WITH THE SEED: the statements are not yours to turn. If you find one false, say at which input.
  Laid BY PROGRAM, IN A SANDBOX (cutbox-rows.mjs): the forced cells as the released guide's own fill.sh prints them over the translation ae7b778776209be7… (all of the seat's roots in one cut). By AI agents, Wed Nov 11 2026. No macro, syntax, notation, axiom, sorry.
-/
import Derived.Test.YtoikkjefaakchaaGreatDoorChecked
import GoSem.Claim
import GoSem.ClaimJoined
import GoSem.ClaimMapViews
import Derived.JoinedTies
import Derived.KernelRfl
namespace Go.Proofs.YtoikkjefaakchaaGreatDoor
/- THE CELL 'sum', in the pinned program and in every row, IS THE sha256 OF THE DUMP (.gsa) THAT YtoikkjefaakchaaGreatDoorProg.lean LOADS. Nothing in Lean hashes anything: it is a label: what it is worth is what the hold of that sum in a sandbox is worth. -/
noncomputable def Tryz.pinned : Pinned := { name := "ytoikkjefaakchaagreatdoor", sum := "ae7b778776209be7bd271f3e45d08ecf4efe3463f1cc02a14d49a0257f0ddcdc", checked := Tryz.checked }
namespace Rows
def none {H : Type} : Left H := { results := [], args := [] }

/- WHAT THE LISTED PACKAGE-LEVEL VARIABLES READ AS WHEN THE CALL BEGINS. Each datum BY PROGRAM (the guide's laid-datum.mjs) off the statement by which the dump's own 'gosem.cut.vars' lays the variable. In a bare row this is a premise. The card (YtoikkjefaakchaaGreatDoorCards.lean) ties it to the program's text. -/
def laid_io_EOF {H : Type} : DataW H := .iface "*errors.errorString" (.ptr (.agg [.lit (.string [69, 79, 70])]))
def laid_io_ErrUnexpectedEOF {H : Type} : DataW H := .iface "*errors.errorString" (.ptr (.agg [.lit (.string [117, 110, 101, 120, 112, 101, 99, 116, 101, 100, 32, 69, 79, 70])]))
def laid_bytes_ErrTooLarge {H : Type} : DataW H := .iface "*errors.errorString" (.ptr (.agg [.lit (.string [98, 121, 116, 101, 115, 46, 66, 117, 102, 102, 101, 114, 58, 32, 116, 111, 111, 32, 108, 97, 114, 103, 101])]))
def laid_io_ErrShortBuffer {H : Type} : DataW H := .iface "*errors.errorString" (.ptr (.agg [.lit (.string [115, 104, 111, 114, 116, 32, 98, 117, 102, 102, 101, 114])]))

/-- 'laws.FnBinaryTexts': WHATEVER THE INPUT: true; the input reads as it did. -/
def fnBinaryTextsSpec : ChangeSpec := { name := "fnBinaryTexts", fn := fun _ => fun
  | [d1, d2, d3] => { results := [.lit (.bool true)], args := [d1, d2, d3] }
  | _ => none }
def fnBinaryTextsRow : OpenClaim := { program := "ytoikkjefaakchaagreatdoor", sum := "ae7b778776209be7bd271f3e45d08ecf4efe3463f1cc02a14d49a0257f0ddcdc", func := "pub-twineward/laws.FnBinaryTexts", spec := "fnBinaryTexts", inPlace := ["math.Float64frombits", "math.Float64bits"], unfollowed := true, recurses := true, named := ["io.EOF", "io.ErrUnexpectedEOF", "bytes.ErrTooLarge"], apart := false, laid := [("io.EOF", laid_io_EOF), ("io.ErrUnexpectedEOF", laid_io_ErrUnexpectedEOF), ("bytes.ErrTooLarge", laid_bytes_ErrTooLarge)] }
def FnBinaryTextsSaid : Prop := fnBinaryTextsRow.holds Tryz.pinned (OpenSpec.ofChange fnBinaryTextsSpec)

/-- ITS FALSE NEIGHBOUR: 'it returns false'. Refute it at one input. -/
def fnBinaryTextsWrong : ChangeSpec := { name := "fnBinaryTexts", fn := fun _ => fun
  | [d1, d2, d3] => { results := [.lit (.bool false)], args := [d1, d2, d3] }
  | _ => none }
def FnBinaryTextsWrongFalsely : Prop := fnBinaryTextsRow.holds Tryz.pinned (OpenSpec.ofChange fnBinaryTextsWrong)

/-- 'laws.FnBinaryMessages': WHATEVER THE INPUT: true; the input reads as it did. -/
def fnBinaryMessagesSpec : ChangeSpec := { name := "fnBinaryMessages", fn := fun _ => fun
  | [d1, d2, d3, d4, d5] => { results := [.lit (.bool true)], args := [d1, d2, d3, d4, d5] }
  | _ => none }
def fnBinaryMessagesRow : OpenClaim := { program := "ytoikkjefaakchaagreatdoor", sum := "ae7b778776209be7bd271f3e45d08ecf4efe3463f1cc02a14d49a0257f0ddcdc", func := "pub-twineward/laws.FnBinaryMessages", spec := "fnBinaryMessages", inPlace := ["math.Float64frombits", "math.Float64bits"], unfollowed := true, recurses := true, named := ["io.EOF", "io.ErrUnexpectedEOF", "bytes.ErrTooLarge"], apart := false, laid := [("io.EOF", laid_io_EOF), ("io.ErrUnexpectedEOF", laid_io_ErrUnexpectedEOF), ("bytes.ErrTooLarge", laid_bytes_ErrTooLarge)] }
def FnBinaryMessagesSaid : Prop := fnBinaryMessagesRow.holds Tryz.pinned (OpenSpec.ofChange fnBinaryMessagesSpec)

/-- ITS FALSE NEIGHBOUR: 'it returns false'. Refute it at one input. -/
def fnBinaryMessagesWrong : ChangeSpec := { name := "fnBinaryMessages", fn := fun _ => fun
  | [d1, d2, d3, d4, d5] => { results := [.lit (.bool false)], args := [d1, d2, d3, d4, d5] }
  | _ => none }
def FnBinaryMessagesWrongFalsely : Prop := fnBinaryMessagesRow.holds Tryz.pinned (OpenSpec.ofChange fnBinaryMessagesWrong)

/-- 'laws.FnBare': WHATEVER THE INPUT: true; the input reads as it did. -/
def fnBareSpec : ChangeSpec := { name := "fnBare", fn := fun _ => fun
  | [d1, d2] => { results := [.lit (.bool true)], args := [d1, d2] }
  | _ => none }
def fnBareRow : OpenClaim := { program := "ytoikkjefaakchaagreatdoor", sum := "ae7b778776209be7bd271f3e45d08ecf4efe3463f1cc02a14d49a0257f0ddcdc", func := "pub-twineward/laws.FnBare", spec := "fnBare", inPlace := ["math.Float64frombits", "math.Float64bits"], unfollowed := true, recurses := true, named := ["io.EOF", "io.ErrUnexpectedEOF", "bytes.ErrTooLarge"], apart := false, laid := [("io.EOF", laid_io_EOF), ("io.ErrUnexpectedEOF", laid_io_ErrUnexpectedEOF), ("bytes.ErrTooLarge", laid_bytes_ErrTooLarge)] }
def FnBareSaid : Prop := fnBareRow.holds Tryz.pinned (OpenSpec.ofChange fnBareSpec)

/-- ITS FALSE NEIGHBOUR: 'it returns false'. Refute it at one input. -/
def fnBareWrong : ChangeSpec := { name := "fnBare", fn := fun _ => fun
  | [d1, d2] => { results := [.lit (.bool false)], args := [d1, d2] }
  | _ => none }
def FnBareWrongFalsely : Prop := fnBareRow.holds Tryz.pinned (OpenSpec.ofChange fnBareWrong)

/-- 'laws.FnVarintBack': WHATEVER THE INPUT: true; the input reads as it did. -/
def fnVarintBackSpec : ChangeSpec := { name := "fnVarintBack", fn := fun _ => fun
  | [d1, d2, d3] => { results := [.lit (.bool true)], args := [d1, d2, d3] }
  | _ => none }
def fnVarintBackRow : OpenClaim := { program := "ytoikkjefaakchaagreatdoor", sum := "ae7b778776209be7bd271f3e45d08ecf4efe3463f1cc02a14d49a0257f0ddcdc", func := "pub-twineward/laws.FnVarintBack", spec := "fnVarintBack", inPlace := ["math.Float64frombits", "math.Float64bits"], unfollowed := true, recurses := true, named := ["io.EOF", "io.ErrUnexpectedEOF", "bytes.ErrTooLarge"], apart := false, laid := [("io.EOF", laid_io_EOF), ("io.ErrUnexpectedEOF", laid_io_ErrUnexpectedEOF), ("bytes.ErrTooLarge", laid_bytes_ErrTooLarge)] }
def FnVarintBackSaid : Prop := fnVarintBackRow.holds Tryz.pinned (OpenSpec.ofChange fnVarintBackSpec)

/-- ITS FALSE NEIGHBOUR: 'it returns false'. Refute it at one input. -/
def fnVarintBackWrong : ChangeSpec := { name := "fnVarintBack", fn := fun _ => fun
  | [d1, d2, d3] => { results := [.lit (.bool false)], args := [d1, d2, d3] }
  | _ => none }
def FnVarintBackWrongFalsely : Prop := fnVarintBackRow.holds Tryz.pinned (OpenSpec.ofChange fnVarintBackWrong)

/-- 'laws.FnLimitLists': WHATEVER THE INPUT: true; the input reads as it did. -/
def fnLimitListsSpec : ChangeSpec := { name := "fnLimitLists", fn := fun _ => fun
  | [d1, d2, d3] => { results := [.lit (.bool true)], args := [d1, d2, d3] }
  | _ => none }
def fnLimitListsRow : OpenClaim := { program := "ytoikkjefaakchaagreatdoor", sum := "ae7b778776209be7bd271f3e45d08ecf4efe3463f1cc02a14d49a0257f0ddcdc", func := "pub-twineward/laws.FnLimitLists", spec := "fnLimitLists", inPlace := ["math.Float64frombits", "math.Float64bits"], unfollowed := true, recurses := true, named := ["io.EOF", "io.ErrUnexpectedEOF", "bytes.ErrTooLarge"], apart := false, laid := [("io.EOF", laid_io_EOF), ("io.ErrUnexpectedEOF", laid_io_ErrUnexpectedEOF), ("bytes.ErrTooLarge", laid_bytes_ErrTooLarge)] }
def FnLimitListsSaid : Prop := fnLimitListsRow.holds Tryz.pinned (OpenSpec.ofChange fnLimitListsSpec)

/-- ITS FALSE NEIGHBOUR: 'it returns false'. Refute it at one input. -/
def fnLimitListsWrong : ChangeSpec := { name := "fnLimitLists", fn := fun _ => fun
  | [d1, d2, d3] => { results := [.lit (.bool false)], args := [d1, d2, d3] }
  | _ => none }
def FnLimitListsWrongFalsely : Prop := fnLimitListsRow.holds Tryz.pinned (OpenSpec.ofChange fnLimitListsWrong)

/-- 'laws.FnPieces': WHATEVER THE INPUT: true; the input reads as it did. -/
def fnPiecesSpec : ChangeSpec := { name := "fnPieces", fn := fun _ => fun
  | [d1, d2, d3] => { results := [.lit (.bool true)], args := [d1, d2, d3] }
  | _ => none }
def fnPiecesRow : OpenClaim := { program := "ytoikkjefaakchaagreatdoor", sum := "ae7b778776209be7bd271f3e45d08ecf4efe3463f1cc02a14d49a0257f0ddcdc", func := "pub-twineward/laws.FnPieces", spec := "fnPieces", inPlace := ["math.Float64frombits", "math.Float64bits"], unfollowed := true, recurses := true, named := ["io.EOF", "io.ErrUnexpectedEOF", "bytes.ErrTooLarge", "io.ErrShortBuffer"], apart := false, laid := [("io.ErrShortBuffer", laid_io_ErrShortBuffer), ("io.EOF", laid_io_EOF), ("io.ErrUnexpectedEOF", laid_io_ErrUnexpectedEOF), ("bytes.ErrTooLarge", laid_bytes_ErrTooLarge)] }
def FnPiecesSaid : Prop := fnPiecesRow.holds Tryz.pinned (OpenSpec.ofChange fnPiecesSpec)

/-- ITS FALSE NEIGHBOUR: 'it returns false'. Refute it at one input. -/
def fnPiecesWrong : ChangeSpec := { name := "fnPieces", fn := fun _ => fun
  | [d1, d2, d3] => { results := [.lit (.bool false)], args := [d1, d2, d3] }
  | _ => none }
def FnPiecesWrongFalsely : Prop := fnPiecesRow.holds Tryz.pinned (OpenSpec.ofChange fnPiecesWrong)

/-- 'laws.FnPutMessage': WHATEVER THE INPUT: true; the input reads as it did. -/
def fnPutMessageSpec : ChangeSpec := { name := "fnPutMessage", fn := fun _ => fun
  | [d1, d2, d3, d4, d5] => { results := [.lit (.bool true)], args := [d1, d2, d3, d4, d5] }
  | _ => none }
def fnPutMessageRow : OpenClaim := { program := "ytoikkjefaakchaagreatdoor", sum := "ae7b778776209be7bd271f3e45d08ecf4efe3463f1cc02a14d49a0257f0ddcdc", func := "pub-twineward/laws.FnPutMessage", spec := "fnPutMessage", inPlace := ["math.Float64frombits", "math.Float64bits"], unfollowed := true, recurses := true, named := ["io.EOF", "io.ErrUnexpectedEOF", "bytes.ErrTooLarge"], loops := true, apart := false, laid := [("io.EOF", laid_io_EOF), ("io.ErrUnexpectedEOF", laid_io_ErrUnexpectedEOF), ("bytes.ErrTooLarge", laid_bytes_ErrTooLarge)] }
def FnPutMessageSaid : Prop := fnPutMessageRow.holds Tryz.pinned (OpenSpec.ofChange fnPutMessageSpec)

/-- ITS FALSE NEIGHBOUR: 'it returns false'. Refute it at one input. -/
def fnPutMessageWrong : ChangeSpec := { name := "fnPutMessage", fn := fun _ => fun
  | [d1, d2, d3, d4, d5] => { results := [.lit (.bool false)], args := [d1, d2, d3, d4, d5] }
  | _ => none }
def FnPutMessageWrongFalsely : Prop := fnPutMessageRow.holds Tryz.pinned (OpenSpec.ofChange fnPutMessageWrong)

/-- 'laws.FnPutFault': WHATEVER THE INPUT: true; the input reads as it did. -/
def fnPutFaultSpec : ChangeSpec := { name := "fnPutFault", fn := fun _ => fun
  | [d1, d2, d3] => { results := [.lit (.bool true)], args := [d1, d2, d3] }
  | _ => none }
def fnPutFaultRow : OpenClaim := { program := "ytoikkjefaakchaagreatdoor", sum := "ae7b778776209be7bd271f3e45d08ecf4efe3463f1cc02a14d49a0257f0ddcdc", func := "pub-twineward/laws.FnPutFault", spec := "fnPutFault", inPlace := ["math.Float64frombits", "math.Float64bits"], unfollowed := true, recurses := true, named := ["io.EOF", "io.ErrUnexpectedEOF", "bytes.ErrTooLarge"], apart := false, laid := [("io.EOF", laid_io_EOF), ("io.ErrUnexpectedEOF", laid_io_ErrUnexpectedEOF), ("bytes.ErrTooLarge", laid_bytes_ErrTooLarge)] }
def FnPutFaultSaid : Prop := fnPutFaultRow.holds Tryz.pinned (OpenSpec.ofChange fnPutFaultSpec)

/-- ITS FALSE NEIGHBOUR: 'it returns false'. Refute it at one input. -/
def fnPutFaultWrong : ChangeSpec := { name := "fnPutFault", fn := fun _ => fun
  | [d1, d2, d3] => { results := [.lit (.bool false)], args := [d1, d2, d3] }
  | _ => none }
def FnPutFaultWrongFalsely : Prop := fnPutFaultRow.holds Tryz.pinned (OpenSpec.ofChange fnPutFaultWrong)

/-- 'laws.FnSerial': WHATEVER THE INPUT: true; the input reads as it did. -/
def fnSerialSpec : ChangeSpec := { name := "fnSerial", fn := fun _ => fun
  | [d1, d2] => { results := [.lit (.bool true)], args := [d1, d2] }
  | _ => none }
def fnSerialRow : OpenClaim := { program := "ytoikkjefaakchaagreatdoor", sum := "ae7b778776209be7bd271f3e45d08ecf4efe3463f1cc02a14d49a0257f0ddcdc", func := "pub-twineward/laws.FnSerial", spec := "fnSerial", inPlace := ["math.Float64frombits", "math.Float64bits"], unfollowed := true, recurses := true, named := ["io.EOF", "io.ErrUnexpectedEOF", "bytes.ErrTooLarge"], loops := true, apart := false, laid := [("io.EOF", laid_io_EOF), ("io.ErrUnexpectedEOF", laid_io_ErrUnexpectedEOF), ("bytes.ErrTooLarge", laid_bytes_ErrTooLarge)] }
def FnSerialSaid : Prop := fnSerialRow.holds Tryz.pinned (OpenSpec.ofChange fnSerialSpec)

/-- ITS FALSE NEIGHBOUR: 'it returns false'. Refute it at one input. -/
def fnSerialWrong : ChangeSpec := { name := "fnSerial", fn := fun _ => fun
  | [d1, d2] => { results := [.lit (.bool false)], args := [d1, d2] }
  | _ => none }
def FnSerialWrongFalsely : Prop := fnSerialRow.holds Tryz.pinned (OpenSpec.ofChange fnSerialWrong)

/-- 'laws.FnSend': WHATEVER THE INPUT: true; the input reads as it did. -/
def fnSendSpec : ChangeSpec := { name := "fnSend", fn := fun _ => fun
  | [d1, d2, d3, d4] => { results := [.lit (.bool true)], args := [d1, d2, d3, d4] }
  | _ => none }
def fnSendRow : OpenClaim := { program := "ytoikkjefaakchaagreatdoor", sum := "ae7b778776209be7bd271f3e45d08ecf4efe3463f1cc02a14d49a0257f0ddcdc", func := "pub-twineward/laws.FnSend", spec := "fnSend", inPlace := ["math.Float64frombits", "math.Float64bits"], unfollowed := true, recurses := true, named := ["io.EOF", "io.ErrUnexpectedEOF", "bytes.ErrTooLarge"], loops := true, apart := false, laid := [("io.EOF", laid_io_EOF), ("io.ErrUnexpectedEOF", laid_io_ErrUnexpectedEOF), ("bytes.ErrTooLarge", laid_bytes_ErrTooLarge)] }
def FnSendSaid : Prop := fnSendRow.holds Tryz.pinned (OpenSpec.ofChange fnSendSpec)

/-- ITS FALSE NEIGHBOUR: 'it returns false'. Refute it at one input. -/
def fnSendWrong : ChangeSpec := { name := "fnSend", fn := fun _ => fun
  | [d1, d2, d3, d4] => { results := [.lit (.bool false)], args := [d1, d2, d3, d4] }
  | _ => none }
def FnSendWrongFalsely : Prop := fnSendRow.holds Tryz.pinned (OpenSpec.ofChange fnSendWrong)

/-- 'laws.FnCompactSizes': WHATEVER THE INPUT: true; the input reads as it did. -/
def fnCompactSizesSpec : ChangeSpec := { name := "fnCompactSizes", fn := fun _ => fun
  | [d1, d2] => { results := [.lit (.bool true)], args := [d1, d2] }
  | _ => none }
def fnCompactSizesRow : OpenClaim := { program := "ytoikkjefaakchaagreatdoor", sum := "ae7b778776209be7bd271f3e45d08ecf4efe3463f1cc02a14d49a0257f0ddcdc", func := "pub-twineward/laws.FnCompactSizes", spec := "fnCompactSizes", inPlace := ["math.Float64frombits", "math.Float64bits"], unfollowed := true, recurses := true, named := ["io.EOF", "io.ErrUnexpectedEOF", "bytes.ErrTooLarge"], loops := true, apart := false, laid := [("io.EOF", laid_io_EOF), ("io.ErrUnexpectedEOF", laid_io_ErrUnexpectedEOF), ("bytes.ErrTooLarge", laid_bytes_ErrTooLarge)] }
def FnCompactSizesSaid : Prop := fnCompactSizesRow.holds Tryz.pinned (OpenSpec.ofChange fnCompactSizesSpec)

/-- ITS FALSE NEIGHBOUR: 'it returns false'. Refute it at one input. -/
def fnCompactSizesWrong : ChangeSpec := { name := "fnCompactSizes", fn := fun _ => fun
  | [d1, d2] => { results := [.lit (.bool false)], args := [d1, d2] }
  | _ => none }
def FnCompactSizesWrongFalsely : Prop := fnCompactSizesRow.holds Tryz.pinned (OpenSpec.ofChange fnCompactSizesWrong)

/-- 'laws.FnBoth': WHATEVER THE INPUT: true; the input reads as it did. -/
def fnBothSpec : ChangeSpec := { name := "fnBoth", fn := fun _ => fun
  | [d1, d2, d3] => { results := [.lit (.bool true)], args := [d1, d2, d3] }
  | _ => none }
def fnBothRow : OpenClaim := { program := "ytoikkjefaakchaagreatdoor", sum := "ae7b778776209be7bd271f3e45d08ecf4efe3463f1cc02a14d49a0257f0ddcdc", func := "pub-twineward/laws.FnBoth", spec := "fnBoth", inPlace := ["math.Float64frombits", "math.Float64bits"], unfollowed := true, recurses := true, named := ["io.EOF", "io.ErrUnexpectedEOF", "bytes.ErrTooLarge"], loops := true, apart := false, laid := [("io.EOF", laid_io_EOF), ("io.ErrUnexpectedEOF", laid_io_ErrUnexpectedEOF), ("bytes.ErrTooLarge", laid_bytes_ErrTooLarge)] }
def FnBothSaid : Prop := fnBothRow.holds Tryz.pinned (OpenSpec.ofChange fnBothSpec)

/-- ITS FALSE NEIGHBOUR: 'it returns false'. Refute it at one input. -/
def fnBothWrong : ChangeSpec := { name := "fnBoth", fn := fun _ => fun
  | [d1, d2, d3] => { results := [.lit (.bool false)], args := [d1, d2, d3] }
  | _ => none }
def FnBothWrongFalsely : Prop := fnBothRow.holds Tryz.pinned (OpenSpec.ofChange fnBothWrong)

/- THE SECOND FORM. 'bulk': how many values and letters a reading holds, each counted each time it is reached (what is shared counts as often as it is met; a slice's spare places count too). A statement '..UptoSaid' is the law's where the arguments, and the package variables that the reading takes, are together of bulk at most 1048576: NARROWER than '..Said'. Prove '..Said' where nothing that the law and all that it calls make is longer than what came in: it says more and counts as full. Else prove '..UptoSaid'. A law counts once. -/
mutual
def uptoBulk {H : Type} : DataW H → Nat
  | .lit (.string bytes) => bytes.length + 1
  | .lit _ => 1
  | .nil => 1
  | .ptr d => uptoBulk d + 1
  | .slice elems spare => uptoBulkAll elems + uptoBulkAll spare + 1
  | .agg parts => uptoBulkAll parts + 1
  | .iface _ d => uptoBulk d + 1
  | .map entries => uptoBulkEntries entries + 1
  | .held _ => 1
def uptoBulkAll {H : Type} : List (DataW H) → Nat
  | [] => 0
  | d :: r => uptoBulk d + uptoBulkAll r
def uptoBulkEntries {H : Type} : List (Lit × DataW H) → Nat
  | [] => 0
  | x :: r => uptoBulkEntry x + uptoBulkEntries r
def uptoBulkEntry {H : Type} : Lit × DataW H → Nat
  | (.string bytes, d) => bytes.length + uptoBulk d + 1
  | (_, d) => uptoBulk d + 1
 end
def uptoSmall : (H : Type) → List (DataW H) → Bool := fun _ ds => decide (uptoBulkAll ds ≤ 1048576)
def OpenSpec.upto (s : _root_.Go.ChangeSpec) : _root_.Go.OpenSpec := { _root_.Go.OpenSpec.ofChange s with cond := some uptoSmall }

/-- 'laws.FnBinaryTexts', WHERE WHAT IT READS IS OF BULK AT MOST 1048576: true; the input reads as it did. -/
def fnBinaryTextsUptoRow : OpenClaim := { program := "ytoikkjefaakchaagreatdoor", sum := "ae7b778776209be7bd271f3e45d08ecf4efe3463f1cc02a14d49a0257f0ddcdc", func := "pub-twineward/laws.FnBinaryTexts", spec := "fnBinaryTexts", inPlace := ["math.Float64frombits", "math.Float64bits"], unfollowed := true, recurses := true, named := ["io.EOF", "io.ErrUnexpectedEOF", "bytes.ErrTooLarge"], apart := false, laid := [("io.EOF", laid_io_EOF), ("io.ErrUnexpectedEOF", laid_io_ErrUnexpectedEOF), ("bytes.ErrTooLarge", laid_bytes_ErrTooLarge)], narrowed := true }
def FnBinaryTextsUptoSaid : Prop := fnBinaryTextsUptoRow.holds Tryz.pinned (OpenSpec.upto fnBinaryTextsSpec)

/-- 'laws.FnBinaryMessages', WHERE WHAT IT READS IS OF BULK AT MOST 1048576: true; the input reads as it did. -/
def fnBinaryMessagesUptoRow : OpenClaim := { program := "ytoikkjefaakchaagreatdoor", sum := "ae7b778776209be7bd271f3e45d08ecf4efe3463f1cc02a14d49a0257f0ddcdc", func := "pub-twineward/laws.FnBinaryMessages", spec := "fnBinaryMessages", inPlace := ["math.Float64frombits", "math.Float64bits"], unfollowed := true, recurses := true, named := ["io.EOF", "io.ErrUnexpectedEOF", "bytes.ErrTooLarge"], apart := false, laid := [("io.EOF", laid_io_EOF), ("io.ErrUnexpectedEOF", laid_io_ErrUnexpectedEOF), ("bytes.ErrTooLarge", laid_bytes_ErrTooLarge)], narrowed := true }
def FnBinaryMessagesUptoSaid : Prop := fnBinaryMessagesUptoRow.holds Tryz.pinned (OpenSpec.upto fnBinaryMessagesSpec)

/-- 'laws.FnBare', WHERE WHAT IT READS IS OF BULK AT MOST 1048576: true; the input reads as it did. -/
def fnBareUptoRow : OpenClaim := { program := "ytoikkjefaakchaagreatdoor", sum := "ae7b778776209be7bd271f3e45d08ecf4efe3463f1cc02a14d49a0257f0ddcdc", func := "pub-twineward/laws.FnBare", spec := "fnBare", inPlace := ["math.Float64frombits", "math.Float64bits"], unfollowed := true, recurses := true, named := ["io.EOF", "io.ErrUnexpectedEOF", "bytes.ErrTooLarge"], apart := false, laid := [("io.EOF", laid_io_EOF), ("io.ErrUnexpectedEOF", laid_io_ErrUnexpectedEOF), ("bytes.ErrTooLarge", laid_bytes_ErrTooLarge)], narrowed := true }
def FnBareUptoSaid : Prop := fnBareUptoRow.holds Tryz.pinned (OpenSpec.upto fnBareSpec)

/-- 'laws.FnVarintBack', WHERE WHAT IT READS IS OF BULK AT MOST 1048576: true; the input reads as it did. -/
def fnVarintBackUptoRow : OpenClaim := { program := "ytoikkjefaakchaagreatdoor", sum := "ae7b778776209be7bd271f3e45d08ecf4efe3463f1cc02a14d49a0257f0ddcdc", func := "pub-twineward/laws.FnVarintBack", spec := "fnVarintBack", inPlace := ["math.Float64frombits", "math.Float64bits"], unfollowed := true, recurses := true, named := ["io.EOF", "io.ErrUnexpectedEOF", "bytes.ErrTooLarge"], apart := false, laid := [("io.EOF", laid_io_EOF), ("io.ErrUnexpectedEOF", laid_io_ErrUnexpectedEOF), ("bytes.ErrTooLarge", laid_bytes_ErrTooLarge)], narrowed := true }
def FnVarintBackUptoSaid : Prop := fnVarintBackUptoRow.holds Tryz.pinned (OpenSpec.upto fnVarintBackSpec)

/-- 'laws.FnLimitLists', WHERE WHAT IT READS IS OF BULK AT MOST 1048576: true; the input reads as it did. -/
def fnLimitListsUptoRow : OpenClaim := { program := "ytoikkjefaakchaagreatdoor", sum := "ae7b778776209be7bd271f3e45d08ecf4efe3463f1cc02a14d49a0257f0ddcdc", func := "pub-twineward/laws.FnLimitLists", spec := "fnLimitLists", inPlace := ["math.Float64frombits", "math.Float64bits"], unfollowed := true, recurses := true, named := ["io.EOF", "io.ErrUnexpectedEOF", "bytes.ErrTooLarge"], apart := false, laid := [("io.EOF", laid_io_EOF), ("io.ErrUnexpectedEOF", laid_io_ErrUnexpectedEOF), ("bytes.ErrTooLarge", laid_bytes_ErrTooLarge)], narrowed := true }
def FnLimitListsUptoSaid : Prop := fnLimitListsUptoRow.holds Tryz.pinned (OpenSpec.upto fnLimitListsSpec)

/-- 'laws.FnPieces', WHERE WHAT IT READS IS OF BULK AT MOST 1048576: true; the input reads as it did. -/
def fnPiecesUptoRow : OpenClaim := { program := "ytoikkjefaakchaagreatdoor", sum := "ae7b778776209be7bd271f3e45d08ecf4efe3463f1cc02a14d49a0257f0ddcdc", func := "pub-twineward/laws.FnPieces", spec := "fnPieces", inPlace := ["math.Float64frombits", "math.Float64bits"], unfollowed := true, recurses := true, named := ["io.EOF", "io.ErrUnexpectedEOF", "bytes.ErrTooLarge", "io.ErrShortBuffer"], apart := false, laid := [("io.ErrShortBuffer", laid_io_ErrShortBuffer), ("io.EOF", laid_io_EOF), ("io.ErrUnexpectedEOF", laid_io_ErrUnexpectedEOF), ("bytes.ErrTooLarge", laid_bytes_ErrTooLarge)], narrowed := true }
def FnPiecesUptoSaid : Prop := fnPiecesUptoRow.holds Tryz.pinned (OpenSpec.upto fnPiecesSpec)

/-- 'laws.FnPutMessage', WHERE WHAT IT READS IS OF BULK AT MOST 1048576: true; the input reads as it did. -/
def fnPutMessageUptoRow : OpenClaim := { program := "ytoikkjefaakchaagreatdoor", sum := "ae7b778776209be7bd271f3e45d08ecf4efe3463f1cc02a14d49a0257f0ddcdc", func := "pub-twineward/laws.FnPutMessage", spec := "fnPutMessage", inPlace := ["math.Float64frombits", "math.Float64bits"], unfollowed := true, recurses := true, named := ["io.EOF", "io.ErrUnexpectedEOF", "bytes.ErrTooLarge"], loops := true, apart := false, laid := [("io.EOF", laid_io_EOF), ("io.ErrUnexpectedEOF", laid_io_ErrUnexpectedEOF), ("bytes.ErrTooLarge", laid_bytes_ErrTooLarge)], narrowed := true }
def FnPutMessageUptoSaid : Prop := fnPutMessageUptoRow.holds Tryz.pinned (OpenSpec.upto fnPutMessageSpec)

/-- 'laws.FnPutFault', WHERE WHAT IT READS IS OF BULK AT MOST 1048576: true; the input reads as it did. -/
def fnPutFaultUptoRow : OpenClaim := { program := "ytoikkjefaakchaagreatdoor", sum := "ae7b778776209be7bd271f3e45d08ecf4efe3463f1cc02a14d49a0257f0ddcdc", func := "pub-twineward/laws.FnPutFault", spec := "fnPutFault", inPlace := ["math.Float64frombits", "math.Float64bits"], unfollowed := true, recurses := true, named := ["io.EOF", "io.ErrUnexpectedEOF", "bytes.ErrTooLarge"], apart := false, laid := [("io.EOF", laid_io_EOF), ("io.ErrUnexpectedEOF", laid_io_ErrUnexpectedEOF), ("bytes.ErrTooLarge", laid_bytes_ErrTooLarge)], narrowed := true }
def FnPutFaultUptoSaid : Prop := fnPutFaultUptoRow.holds Tryz.pinned (OpenSpec.upto fnPutFaultSpec)

/-- 'laws.FnSerial', WHERE WHAT IT READS IS OF BULK AT MOST 1048576: true; the input reads as it did. -/
def fnSerialUptoRow : OpenClaim := { program := "ytoikkjefaakchaagreatdoor", sum := "ae7b778776209be7bd271f3e45d08ecf4efe3463f1cc02a14d49a0257f0ddcdc", func := "pub-twineward/laws.FnSerial", spec := "fnSerial", inPlace := ["math.Float64frombits", "math.Float64bits"], unfollowed := true, recurses := true, named := ["io.EOF", "io.ErrUnexpectedEOF", "bytes.ErrTooLarge"], loops := true, apart := false, laid := [("io.EOF", laid_io_EOF), ("io.ErrUnexpectedEOF", laid_io_ErrUnexpectedEOF), ("bytes.ErrTooLarge", laid_bytes_ErrTooLarge)], narrowed := true }
def FnSerialUptoSaid : Prop := fnSerialUptoRow.holds Tryz.pinned (OpenSpec.upto fnSerialSpec)

/-- 'laws.FnSend', WHERE WHAT IT READS IS OF BULK AT MOST 1048576: true; the input reads as it did. -/
def fnSendUptoRow : OpenClaim := { program := "ytoikkjefaakchaagreatdoor", sum := "ae7b778776209be7bd271f3e45d08ecf4efe3463f1cc02a14d49a0257f0ddcdc", func := "pub-twineward/laws.FnSend", spec := "fnSend", inPlace := ["math.Float64frombits", "math.Float64bits"], unfollowed := true, recurses := true, named := ["io.EOF", "io.ErrUnexpectedEOF", "bytes.ErrTooLarge"], loops := true, apart := false, laid := [("io.EOF", laid_io_EOF), ("io.ErrUnexpectedEOF", laid_io_ErrUnexpectedEOF), ("bytes.ErrTooLarge", laid_bytes_ErrTooLarge)], narrowed := true }
def FnSendUptoSaid : Prop := fnSendUptoRow.holds Tryz.pinned (OpenSpec.upto fnSendSpec)

/-- 'laws.FnCompactSizes', WHERE WHAT IT READS IS OF BULK AT MOST 1048576: true; the input reads as it did. -/
def fnCompactSizesUptoRow : OpenClaim := { program := "ytoikkjefaakchaagreatdoor", sum := "ae7b778776209be7bd271f3e45d08ecf4efe3463f1cc02a14d49a0257f0ddcdc", func := "pub-twineward/laws.FnCompactSizes", spec := "fnCompactSizes", inPlace := ["math.Float64frombits", "math.Float64bits"], unfollowed := true, recurses := true, named := ["io.EOF", "io.ErrUnexpectedEOF", "bytes.ErrTooLarge"], loops := true, apart := false, laid := [("io.EOF", laid_io_EOF), ("io.ErrUnexpectedEOF", laid_io_ErrUnexpectedEOF), ("bytes.ErrTooLarge", laid_bytes_ErrTooLarge)], narrowed := true }
def FnCompactSizesUptoSaid : Prop := fnCompactSizesUptoRow.holds Tryz.pinned (OpenSpec.upto fnCompactSizesSpec)

/-- 'laws.FnBoth', WHERE WHAT IT READS IS OF BULK AT MOST 1048576: true; the input reads as it did. -/
def fnBothUptoRow : OpenClaim := { program := "ytoikkjefaakchaagreatdoor", sum := "ae7b778776209be7bd271f3e45d08ecf4efe3463f1cc02a14d49a0257f0ddcdc", func := "pub-twineward/laws.FnBoth", spec := "fnBoth", inPlace := ["math.Float64frombits", "math.Float64bits"], unfollowed := true, recurses := true, named := ["io.EOF", "io.ErrUnexpectedEOF", "bytes.ErrTooLarge"], loops := true, apart := false, laid := [("io.EOF", laid_io_EOF), ("io.ErrUnexpectedEOF", laid_io_ErrUnexpectedEOF), ("bytes.ErrTooLarge", laid_bytes_ErrTooLarge)], narrowed := true }
def FnBothUptoSaid : Prop := fnBothUptoRow.holds Tryz.pinned (OpenSpec.upto fnBothSpec)

end Rows
end Go.Proofs.YtoikkjefaakchaaGreatDoor
