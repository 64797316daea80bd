/-
  NARROWER THAN 'FOR EVERY INPUT', by the rows' own cells (each row's printed sentence says how): FnLimitLists: laid · FnPutBinary: loops, laid · FnPieces: laid · FnVarintBack: laid · FnWriteBinary: laid · FnBare: laid · FnBinaryField: laid · FnBinaryLists: laid · FnBinaryMaps: laid · FnBinaryMessages: laid · FnBinaryNumbers: laid · FnBinaryTexts: laid.
  DERIVED. THE GIVEN ROWS OF THIS SEAT. 12 by the template 'for every input the law returns true; each argument reads behind the call as it read before'; 0 by the template 'total and deterministic' (their statements: YtoifjckhccbmlaaGreatDoorTotals.lean).
  GIVEN WITH THE SEED: the statements are not yours to turn. If you find one false, say at which input.
  Laid BY PROGRAM, IN A SANDBOX (cutbox-rows.mjs): the forced cells as the released guide's own fill.sh prints them over the translation 49bc80803e1e19ae… (all of the seat's roots in one cut). By AI agents, Wed Nov 11 2026. No macro, syntax, notation, axiom, sorry.
-/
import Derived.Test.YtoifjckhccbmlaaGreatDoorChecked
import GoSem.Claim
import GoSem.ClaimJoined
import GoSem.ClaimMapViews
import Derived.JoinedTies
import Derived.KernelRfl
namespace Go.Proofs.YtoifjckhccbmlaaGreatDoor
/- THE CELL 'sum', in the pinned program and in every row, IS THE sha256 OF THE DUMP (.gsa) THAT YtoifjckhccbmlaaGreatDoorProg.lean LOADS. Nothing in Lean hashes anything: it is a label: what it is worth is what the hold of that sum in a sandbox is worth. -/
noncomputable def Tryz.pinned : Pinned := { name := "ytoifjckhccbmlaagreatdoor", sum := "49bc80803e1e19aedc5c39bf7578a79de56f2bd6e6beaad094b93cea4473144c", checked := Tryz.checked }
namespace Rows
def none {H : Type} : Left H := { results := [], args := [] }

/- WHAT THE LISTED PACKAGE-LEVEL VARIABLES READ AS WHEN THE CALL BEGINS. Each datum BY PROGRAM (the guide's laid-datum.mjs) off the statement by which the dump's own 'gosem.cut.vars' lays the variable. In a bare row this is a premise. The card (YtoifjckhccbmlaaGreatDoorCards.lean) ties it to the program's text. -/
def laid_io_EOF {H : Type} : DataW H := .iface "*errors.errorString" (.ptr (.agg [.lit (.string [69, 79, 70])]))
def laid_io_ErrUnexpectedEOF {H : Type} : DataW H := .iface "*errors.errorString" (.ptr (.agg [.lit (.string [117, 110, 101, 120, 112, 101, 99, 116, 101, 100, 32, 69, 79, 70])]))
def laid_bytes_ErrTooLarge {H : Type} : DataW H := .iface "*errors.errorString" (.ptr (.agg [.lit (.string [98, 121, 116, 101, 115, 46, 66, 117, 102, 102, 101, 114, 58, 32, 116, 111, 111, 32, 108, 97, 114, 103, 101])]))
def laid_io_ErrShortBuffer {H : Type} : DataW H := .iface "*errors.errorString" (.ptr (.agg [.lit (.string [115, 104, 111, 114, 116, 32, 98, 117, 102, 102, 101, 114])]))

/-- 'laws.FnLimitLists': WHATEVER THE INPUT: true; the input reads as it did. -/
def fnLimitListsSpec : ChangeSpec := { name := "fnLimitLists", fn := fun _ => fun
  | [d1, d2, d3] => { results := [.lit (.bool true)], args := [d1, d2, d3] }
  | _ => none }
def fnLimitListsRow : OpenClaim := { program := "ytoifjckhccbmlaagreatdoor", sum := "49bc80803e1e19aedc5c39bf7578a79de56f2bd6e6beaad094b93cea4473144c", func := "pub-twineward/laws.FnLimitLists", spec := "fnLimitLists", inPlace := ["math.Float64frombits", "math.Float64bits"], unfollowed := true, recurses := true, named := ["io.EOF", "io.ErrUnexpectedEOF", "bytes.ErrTooLarge"], apart := false, laid := [("io.EOF", laid_io_EOF), ("io.ErrUnexpectedEOF", laid_io_ErrUnexpectedEOF), ("bytes.ErrTooLarge", laid_bytes_ErrTooLarge)] }
def FnLimitListsSaid : Prop := fnLimitListsRow.holds Tryz.pinned (OpenSpec.ofChange fnLimitListsSpec)

/-- ITS FALSE NEIGHBOUR: 'it returns false'. Refute it at one input. -/
def fnLimitListsWrong : ChangeSpec := { name := "fnLimitLists", fn := fun _ => fun
  | [d1, d2, d3] => { results := [.lit (.bool false)], args := [d1, d2, d3] }
  | _ => none }
def FnLimitListsWrongFalsely : Prop := fnLimitListsRow.holds Tryz.pinned (OpenSpec.ofChange fnLimitListsWrong)

/-- 'laws.FnPutBinary': WHATEVER THE INPUT: true; the input reads as it did. -/
def fnPutBinarySpec : ChangeSpec := { name := "fnPutBinary", fn := fun _ => fun
  | [d1, d2] => { results := [.lit (.bool true)], args := [d1, d2] }
  | _ => none }
def fnPutBinaryRow : OpenClaim := { program := "ytoifjckhccbmlaagreatdoor", sum := "49bc80803e1e19aedc5c39bf7578a79de56f2bd6e6beaad094b93cea4473144c", func := "pub-twineward/laws.FnPutBinary", spec := "fnPutBinary", inPlace := ["math.Float64frombits", "math.Float64bits"], unfollowed := true, recurses := true, named := ["io.EOF", "io.ErrUnexpectedEOF", "bytes.ErrTooLarge"], loops := true, apart := false, laid := [("io.EOF", laid_io_EOF), ("io.ErrUnexpectedEOF", laid_io_ErrUnexpectedEOF), ("bytes.ErrTooLarge", laid_bytes_ErrTooLarge)] }
def FnPutBinarySaid : Prop := fnPutBinaryRow.holds Tryz.pinned (OpenSpec.ofChange fnPutBinarySpec)

/-- ITS FALSE NEIGHBOUR: 'it returns false'. Refute it at one input. -/
def fnPutBinaryWrong : ChangeSpec := { name := "fnPutBinary", fn := fun _ => fun
  | [d1, d2] => { results := [.lit (.bool false)], args := [d1, d2] }
  | _ => none }
def FnPutBinaryWrongFalsely : Prop := fnPutBinaryRow.holds Tryz.pinned (OpenSpec.ofChange fnPutBinaryWrong)

/-- 'laws.FnPieces': WHATEVER THE INPUT: true; the input reads as it did. -/
def fnPiecesSpec : ChangeSpec := { name := "fnPieces", fn := fun _ => fun
  | [d1, d2, d3] => { results := [.lit (.bool true)], args := [d1, d2, d3] }
  | _ => none }
def fnPiecesRow : OpenClaim := { program := "ytoifjckhccbmlaagreatdoor", sum := "49bc80803e1e19aedc5c39bf7578a79de56f2bd6e6beaad094b93cea4473144c", func := "pub-twineward/laws.FnPieces", spec := "fnPieces", inPlace := ["math.Float64frombits", "math.Float64bits"], unfollowed := true, recurses := true, named := ["io.EOF", "io.ErrUnexpectedEOF", "bytes.ErrTooLarge", "io.ErrShortBuffer"], apart := false, laid := [("io.ErrShortBuffer", laid_io_ErrShortBuffer), ("io.EOF", laid_io_EOF), ("io.ErrUnexpectedEOF", laid_io_ErrUnexpectedEOF), ("bytes.ErrTooLarge", laid_bytes_ErrTooLarge)] }
def FnPiecesSaid : Prop := fnPiecesRow.holds Tryz.pinned (OpenSpec.ofChange fnPiecesSpec)

/-- ITS FALSE NEIGHBOUR: 'it returns false'. Refute it at one input. -/
def fnPiecesWrong : ChangeSpec := { name := "fnPieces", fn := fun _ => fun
  | [d1, d2, d3] => { results := [.lit (.bool false)], args := [d1, d2, d3] }
  | _ => none }
def FnPiecesWrongFalsely : Prop := fnPiecesRow.holds Tryz.pinned (OpenSpec.ofChange fnPiecesWrong)

/-- 'laws.FnVarintBack': WHATEVER THE INPUT: true; the input reads as it did. -/
def fnVarintBackSpec : ChangeSpec := { name := "fnVarintBack", fn := fun _ => fun
  | [d1, d2, d3] => { results := [.lit (.bool true)], args := [d1, d2, d3] }
  | _ => none }
def fnVarintBackRow : OpenClaim := { program := "ytoifjckhccbmlaagreatdoor", sum := "49bc80803e1e19aedc5c39bf7578a79de56f2bd6e6beaad094b93cea4473144c", func := "pub-twineward/laws.FnVarintBack", spec := "fnVarintBack", inPlace := ["math.Float64frombits", "math.Float64bits"], unfollowed := true, recurses := true, named := ["io.EOF", "io.ErrUnexpectedEOF", "bytes.ErrTooLarge"], apart := false, laid := [("io.EOF", laid_io_EOF), ("io.ErrUnexpectedEOF", laid_io_ErrUnexpectedEOF), ("bytes.ErrTooLarge", laid_bytes_ErrTooLarge)] }
def FnVarintBackSaid : Prop := fnVarintBackRow.holds Tryz.pinned (OpenSpec.ofChange fnVarintBackSpec)

/-- ITS FALSE NEIGHBOUR: 'it returns false'. Refute it at one input. -/
def fnVarintBackWrong : ChangeSpec := { name := "fnVarintBack", fn := fun _ => fun
  | [d1, d2, d3] => { results := [.lit (.bool false)], args := [d1, d2, d3] }
  | _ => none }
def FnVarintBackWrongFalsely : Prop := fnVarintBackRow.holds Tryz.pinned (OpenSpec.ofChange fnVarintBackWrong)

/-- 'laws.FnWriteBinary': WHATEVER THE INPUT: true; the input reads as it did. -/
def fnWriteBinarySpec : ChangeSpec := { name := "fnWriteBinary", fn := fun _ => fun
  | [d1, d2] => { results := [.lit (.bool true)], args := [d1, d2] }
  | _ => none }
def fnWriteBinaryRow : OpenClaim := { program := "ytoifjckhccbmlaagreatdoor", sum := "49bc80803e1e19aedc5c39bf7578a79de56f2bd6e6beaad094b93cea4473144c", func := "pub-twineward/laws.FnWriteBinary", spec := "fnWriteBinary", inPlace := ["math.Float64frombits", "math.Float64bits"], unfollowed := true, recurses := true, named := ["io.EOF", "io.ErrUnexpectedEOF", "bytes.ErrTooLarge"], apart := false, laid := [("io.EOF", laid_io_EOF), ("io.ErrUnexpectedEOF", laid_io_ErrUnexpectedEOF), ("bytes.ErrTooLarge", laid_bytes_ErrTooLarge)] }
def FnWriteBinarySaid : Prop := fnWriteBinaryRow.holds Tryz.pinned (OpenSpec.ofChange fnWriteBinarySpec)

/-- ITS FALSE NEIGHBOUR: 'it returns false'. Refute it at one input. -/
def fnWriteBinaryWrong : ChangeSpec := { name := "fnWriteBinary", fn := fun _ => fun
  | [d1, d2] => { results := [.lit (.bool false)], args := [d1, d2] }
  | _ => none }
def FnWriteBinaryWrongFalsely : Prop := fnWriteBinaryRow.holds Tryz.pinned (OpenSpec.ofChange fnWriteBinaryWrong)

/-- 'laws.FnBare': WHATEVER THE INPUT: true; the input reads as it did. -/
def fnBareSpec : ChangeSpec := { name := "fnBare", fn := fun _ => fun
  | [d1, d2] => { results := [.lit (.bool true)], args := [d1, d2] }
  | _ => none }
def fnBareRow : OpenClaim := { program := "ytoifjckhccbmlaagreatdoor", sum := "49bc80803e1e19aedc5c39bf7578a79de56f2bd6e6beaad094b93cea4473144c", func := "pub-twineward/laws.FnBare", spec := "fnBare", inPlace := ["math.Float64frombits", "math.Float64bits"], unfollowed := true, recurses := true, named := ["io.EOF", "io.ErrUnexpectedEOF", "bytes.ErrTooLarge"], apart := false, laid := [("io.EOF", laid_io_EOF), ("io.ErrUnexpectedEOF", laid_io_ErrUnexpectedEOF), ("bytes.ErrTooLarge", laid_bytes_ErrTooLarge)] }
def FnBareSaid : Prop := fnBareRow.holds Tryz.pinned (OpenSpec.ofChange fnBareSpec)

/-- ITS FALSE NEIGHBOUR: 'it returns false'. Refute it at one input. -/
def fnBareWrong : ChangeSpec := { name := "fnBare", fn := fun _ => fun
  | [d1, d2] => { results := [.lit (.bool false)], args := [d1, d2] }
  | _ => none }
def FnBareWrongFalsely : Prop := fnBareRow.holds Tryz.pinned (OpenSpec.ofChange fnBareWrong)

/-- 'laws.FnBinaryField': WHATEVER THE INPUT: true; the input reads as it did. -/
def fnBinaryFieldSpec : ChangeSpec := { name := "fnBinaryField", fn := fun _ => fun
  | [d1, d2, d3, d4] => { results := [.lit (.bool true)], args := [d1, d2, d3, d4] }
  | _ => none }
def fnBinaryFieldRow : OpenClaim := { program := "ytoifjckhccbmlaagreatdoor", sum := "49bc80803e1e19aedc5c39bf7578a79de56f2bd6e6beaad094b93cea4473144c", func := "pub-twineward/laws.FnBinaryField", spec := "fnBinaryField", inPlace := ["math.Float64frombits", "math.Float64bits"], unfollowed := true, recurses := true, named := ["io.EOF", "io.ErrUnexpectedEOF", "bytes.ErrTooLarge"], apart := false, laid := [("io.EOF", laid_io_EOF), ("io.ErrUnexpectedEOF", laid_io_ErrUnexpectedEOF), ("bytes.ErrTooLarge", laid_bytes_ErrTooLarge)] }
def FnBinaryFieldSaid : Prop := fnBinaryFieldRow.holds Tryz.pinned (OpenSpec.ofChange fnBinaryFieldSpec)

/-- ITS FALSE NEIGHBOUR: 'it returns false'. Refute it at one input. -/
def fnBinaryFieldWrong : ChangeSpec := { name := "fnBinaryField", fn := fun _ => fun
  | [d1, d2, d3, d4] => { results := [.lit (.bool false)], args := [d1, d2, d3, d4] }
  | _ => none }
def FnBinaryFieldWrongFalsely : Prop := fnBinaryFieldRow.holds Tryz.pinned (OpenSpec.ofChange fnBinaryFieldWrong)

/-- 'laws.FnBinaryLists': WHATEVER THE INPUT: true; the input reads as it did. -/
def fnBinaryListsSpec : ChangeSpec := { name := "fnBinaryLists", fn := fun _ => fun
  | [d1, d2, d3, d4] => { results := [.lit (.bool true)], args := [d1, d2, d3, d4] }
  | _ => none }
def fnBinaryListsRow : OpenClaim := { program := "ytoifjckhccbmlaagreatdoor", sum := "49bc80803e1e19aedc5c39bf7578a79de56f2bd6e6beaad094b93cea4473144c", func := "pub-twineward/laws.FnBinaryLists", spec := "fnBinaryLists", inPlace := ["math.Float64frombits", "math.Float64bits"], unfollowed := true, recurses := true, named := ["io.EOF", "io.ErrUnexpectedEOF", "bytes.ErrTooLarge"], apart := false, laid := [("io.EOF", laid_io_EOF), ("io.ErrUnexpectedEOF", laid_io_ErrUnexpectedEOF), ("bytes.ErrTooLarge", laid_bytes_ErrTooLarge)] }
def FnBinaryListsSaid : Prop := fnBinaryListsRow.holds Tryz.pinned (OpenSpec.ofChange fnBinaryListsSpec)

/-- ITS FALSE NEIGHBOUR: 'it returns false'. Refute it at one input. -/
def fnBinaryListsWrong : ChangeSpec := { name := "fnBinaryLists", fn := fun _ => fun
  | [d1, d2, d3, d4] => { results := [.lit (.bool false)], args := [d1, d2, d3, d4] }
  | _ => none }
def FnBinaryListsWrongFalsely : Prop := fnBinaryListsRow.holds Tryz.pinned (OpenSpec.ofChange fnBinaryListsWrong)

/-- 'laws.FnBinaryMaps': WHATEVER THE INPUT: true; the input reads as it did. -/
def fnBinaryMapsSpec : ChangeSpec := { name := "fnBinaryMaps", fn := fun _ => fun
  | [d1, d2, d3, d4, d5] => { results := [.lit (.bool true)], args := [d1, d2, d3, d4, d5] }
  | _ => none }
def fnBinaryMapsRow : OpenClaim := { program := "ytoifjckhccbmlaagreatdoor", sum := "49bc80803e1e19aedc5c39bf7578a79de56f2bd6e6beaad094b93cea4473144c", func := "pub-twineward/laws.FnBinaryMaps", spec := "fnBinaryMaps", inPlace := ["math.Float64frombits", "math.Float64bits"], unfollowed := true, recurses := true, named := ["io.EOF", "io.ErrUnexpectedEOF", "bytes.ErrTooLarge"], apart := false, laid := [("io.EOF", laid_io_EOF), ("io.ErrUnexpectedEOF", laid_io_ErrUnexpectedEOF), ("bytes.ErrTooLarge", laid_bytes_ErrTooLarge)] }
def FnBinaryMapsSaid : Prop := fnBinaryMapsRow.holds Tryz.pinned (OpenSpec.ofChange fnBinaryMapsSpec)

/-- ITS FALSE NEIGHBOUR: 'it returns false'. Refute it at one input. -/
def fnBinaryMapsWrong : ChangeSpec := { name := "fnBinaryMaps", fn := fun _ => fun
  | [d1, d2, d3, d4, d5] => { results := [.lit (.bool false)], args := [d1, d2, d3, d4, d5] }
  | _ => none }
def FnBinaryMapsWrongFalsely : Prop := fnBinaryMapsRow.holds Tryz.pinned (OpenSpec.ofChange fnBinaryMapsWrong)

/-- 'laws.FnBinaryMessages': WHATEVER THE INPUT: true; the input reads as it did. -/
def fnBinaryMessagesSpec : ChangeSpec := { name := "fnBinaryMessages", fn := fun _ => fun
  | [d1, d2, d3, d4, d5] => { results := [.lit (.bool true)], args := [d1, d2, d3, d4, d5] }
  | _ => none }
def fnBinaryMessagesRow : OpenClaim := { program := "ytoifjckhccbmlaagreatdoor", sum := "49bc80803e1e19aedc5c39bf7578a79de56f2bd6e6beaad094b93cea4473144c", func := "pub-twineward/laws.FnBinaryMessages", spec := "fnBinaryMessages", inPlace := ["math.Float64frombits", "math.Float64bits"], unfollowed := true, recurses := true, named := ["io.EOF", "io.ErrUnexpectedEOF", "bytes.ErrTooLarge"], apart := false, laid := [("io.EOF", laid_io_EOF), ("io.ErrUnexpectedEOF", laid_io_ErrUnexpectedEOF), ("bytes.ErrTooLarge", laid_bytes_ErrTooLarge)] }
def FnBinaryMessagesSaid : Prop := fnBinaryMessagesRow.holds Tryz.pinned (OpenSpec.ofChange fnBinaryMessagesSpec)

/-- ITS FALSE NEIGHBOUR: 'it returns false'. Refute it at one input. -/
def fnBinaryMessagesWrong : ChangeSpec := { name := "fnBinaryMessages", fn := fun _ => fun
  | [d1, d2, d3, d4, d5] => { results := [.lit (.bool false)], args := [d1, d2, d3, d4, d5] }
  | _ => none }
def FnBinaryMessagesWrongFalsely : Prop := fnBinaryMessagesRow.holds Tryz.pinned (OpenSpec.ofChange fnBinaryMessagesWrong)

/-- 'laws.FnBinaryNumbers': WHATEVER THE INPUT: true; the input reads as it did. -/
def fnBinaryNumbersSpec : ChangeSpec := { name := "fnBinaryNumbers", fn := fun _ => fun
  | [d1, d2, d3] => { results := [.lit (.bool true)], args := [d1, d2, d3] }
  | _ => none }
def fnBinaryNumbersRow : OpenClaim := { program := "ytoifjckhccbmlaagreatdoor", sum := "49bc80803e1e19aedc5c39bf7578a79de56f2bd6e6beaad094b93cea4473144c", func := "pub-twineward/laws.FnBinaryNumbers", spec := "fnBinaryNumbers", inPlace := ["math.Float64frombits", "math.Float64bits"], unfollowed := true, recurses := true, named := ["io.EOF", "io.ErrUnexpectedEOF", "bytes.ErrTooLarge"], apart := false, laid := [("io.EOF", laid_io_EOF), ("io.ErrUnexpectedEOF", laid_io_ErrUnexpectedEOF), ("bytes.ErrTooLarge", laid_bytes_ErrTooLarge)] }
def FnBinaryNumbersSaid : Prop := fnBinaryNumbersRow.holds Tryz.pinned (OpenSpec.ofChange fnBinaryNumbersSpec)

/-- ITS FALSE NEIGHBOUR: 'it returns false'. Refute it at one input. -/
def fnBinaryNumbersWrong : ChangeSpec := { name := "fnBinaryNumbers", fn := fun _ => fun
  | [d1, d2, d3] => { results := [.lit (.bool false)], args := [d1, d2, d3] }
  | _ => none }
def FnBinaryNumbersWrongFalsely : Prop := fnBinaryNumbersRow.holds Tryz.pinned (OpenSpec.ofChange fnBinaryNumbersWrong)

/-- 'laws.FnBinaryTexts': WHATEVER THE INPUT: true; the input reads as it did. -/
def fnBinaryTextsSpec : ChangeSpec := { name := "fnBinaryTexts", fn := fun _ => fun
  | [d1, d2, d3] => { results := [.lit (.bool true)], args := [d1, d2, d3] }
  | _ => none }
def fnBinaryTextsRow : OpenClaim := { program := "ytoifjckhccbmlaagreatdoor", sum := "49bc80803e1e19aedc5c39bf7578a79de56f2bd6e6beaad094b93cea4473144c", func := "pub-twineward/laws.FnBinaryTexts", spec := "fnBinaryTexts", inPlace := ["math.Float64frombits", "math.Float64bits"], unfollowed := true, recurses := true, named := ["io.EOF", "io.ErrUnexpectedEOF", "bytes.ErrTooLarge"], apart := false, laid := [("io.EOF", laid_io_EOF), ("io.ErrUnexpectedEOF", laid_io_ErrUnexpectedEOF), ("bytes.ErrTooLarge", laid_bytes_ErrTooLarge)] }
def FnBinaryTextsSaid : Prop := fnBinaryTextsRow.holds Tryz.pinned (OpenSpec.ofChange fnBinaryTextsSpec)

/-- ITS FALSE NEIGHBOUR: 'it returns false'. Refute it at one input. -/
def fnBinaryTextsWrong : ChangeSpec := { name := "fnBinaryTexts", fn := fun _ => fun
  | [d1, d2, d3] => { results := [.lit (.bool false)], args := [d1, d2, d3] }
  | _ => none }
def FnBinaryTextsWrongFalsely : Prop := fnBinaryTextsRow.holds Tryz.pinned (OpenSpec.ofChange fnBinaryTextsWrong)

/- THE SECOND FORM. 'bulk': how many values and letters a reading holds, each counted each time it is reached (what is shared counts as often as it is met; a slice's spare places count too). A statement '..UptoSaid' is the law's where the arguments, and the package variables that the reading takes, are together of bulk at most 1048576: NARROWER than '..Said'. Prove '..Said' where nothing that the law and all that it calls make is longer than what came in: it says more and counts as full. Else prove '..UptoSaid'. A law counts once. -/
mutual
def uptoBulk {H : Type} : DataW H → Nat
  | .lit (.string bytes) => bytes.length + 1
  | .lit _ => 1
  | .nil => 1
  | .ptr d => uptoBulk d + 1
  | .slice elems spare => uptoBulkAll elems + uptoBulkAll spare + 1
  | .agg parts => uptoBulkAll parts + 1
  | .iface _ d => uptoBulk d + 1
  | .map entries => uptoBulkEntries entries + 1
  | .held _ => 1
def uptoBulkAll {H : Type} : List (DataW H) → Nat
  | [] => 0
  | d :: r => uptoBulk d + uptoBulkAll r
def uptoBulkEntries {H : Type} : List (Lit × DataW H) → Nat
  | [] => 0
  | x :: r => uptoBulkEntry x + uptoBulkEntries r
def uptoBulkEntry {H : Type} : Lit × DataW H → Nat
  | (.string bytes, d) => bytes.length + uptoBulk d + 1
  | (_, d) => uptoBulk d + 1
 end
def uptoSmall : (H : Type) → List (DataW H) → Bool := fun _ ds => decide (uptoBulkAll ds ≤ 1048576)
def OpenSpec.upto (s : _root_.Go.ChangeSpec) : _root_.Go.OpenSpec := { _root_.Go.OpenSpec.ofChange s with cond := some uptoSmall }

/-- 'laws.FnLimitLists', WHERE WHAT IT READS IS OF BULK AT MOST 1048576: true; the input reads as it did. -/
def fnLimitListsUptoRow : OpenClaim := { program := "ytoifjckhccbmlaagreatdoor", sum := "49bc80803e1e19aedc5c39bf7578a79de56f2bd6e6beaad094b93cea4473144c", func := "pub-twineward/laws.FnLimitLists", spec := "fnLimitLists", inPlace := ["math.Float64frombits", "math.Float64bits"], unfollowed := true, recurses := true, named := ["io.EOF", "io.ErrUnexpectedEOF", "bytes.ErrTooLarge"], apart := false, laid := [("io.EOF", laid_io_EOF), ("io.ErrUnexpectedEOF", laid_io_ErrUnexpectedEOF), ("bytes.ErrTooLarge", laid_bytes_ErrTooLarge)], narrowed := true }
def FnLimitListsUptoSaid : Prop := fnLimitListsUptoRow.holds Tryz.pinned (OpenSpec.upto fnLimitListsSpec)

/-- 'laws.FnPutBinary', WHERE WHAT IT READS IS OF BULK AT MOST 1048576: true; the input reads as it did. -/
def fnPutBinaryUptoRow : OpenClaim := { program := "ytoifjckhccbmlaagreatdoor", sum := "49bc80803e1e19aedc5c39bf7578a79de56f2bd6e6beaad094b93cea4473144c", func := "pub-twineward/laws.FnPutBinary", spec := "fnPutBinary", inPlace := ["math.Float64frombits", "math.Float64bits"], unfollowed := true, recurses := true, named := ["io.EOF", "io.ErrUnexpectedEOF", "bytes.ErrTooLarge"], loops := true, apart := false, laid := [("io.EOF", laid_io_EOF), ("io.ErrUnexpectedEOF", laid_io_ErrUnexpectedEOF), ("bytes.ErrTooLarge", laid_bytes_ErrTooLarge)], narrowed := true }
def FnPutBinaryUptoSaid : Prop := fnPutBinaryUptoRow.holds Tryz.pinned (OpenSpec.upto fnPutBinarySpec)

/-- 'laws.FnPieces', WHERE WHAT IT READS IS OF BULK AT MOST 1048576: true; the input reads as it did. -/
def fnPiecesUptoRow : OpenClaim := { program := "ytoifjckhccbmlaagreatdoor", sum := "49bc80803e1e19aedc5c39bf7578a79de56f2bd6e6beaad094b93cea4473144c", func := "pub-twineward/laws.FnPieces", spec := "fnPieces", inPlace := ["math.Float64frombits", "math.Float64bits"], unfollowed := true, recurses := true, named := ["io.EOF", "io.ErrUnexpectedEOF", "bytes.ErrTooLarge", "io.ErrShortBuffer"], apart := false, laid := [("io.ErrShortBuffer", laid_io_ErrShortBuffer), ("io.EOF", laid_io_EOF), ("io.ErrUnexpectedEOF", laid_io_ErrUnexpectedEOF), ("bytes.ErrTooLarge", laid_bytes_ErrTooLarge)], narrowed := true }
def FnPiecesUptoSaid : Prop := fnPiecesUptoRow.holds Tryz.pinned (OpenSpec.upto fnPiecesSpec)

/-- 'laws.FnVarintBack', WHERE WHAT IT READS IS OF BULK AT MOST 1048576: true; the input reads as it did. -/
def fnVarintBackUptoRow : OpenClaim := { program := "ytoifjckhccbmlaagreatdoor", sum := "49bc80803e1e19aedc5c39bf7578a79de56f2bd6e6beaad094b93cea4473144c", func := "pub-twineward/laws.FnVarintBack", spec := "fnVarintBack", inPlace := ["math.Float64frombits", "math.Float64bits"], unfollowed := true, recurses := true, named := ["io.EOF", "io.ErrUnexpectedEOF", "bytes.ErrTooLarge"], apart := false, laid := [("io.EOF", laid_io_EOF), ("io.ErrUnexpectedEOF", laid_io_ErrUnexpectedEOF), ("bytes.ErrTooLarge", laid_bytes_ErrTooLarge)], narrowed := true }
def FnVarintBackUptoSaid : Prop := fnVarintBackUptoRow.holds Tryz.pinned (OpenSpec.upto fnVarintBackSpec)

/-- 'laws.FnWriteBinary', WHERE WHAT IT READS IS OF BULK AT MOST 1048576: true; the input reads as it did. -/
def fnWriteBinaryUptoRow : OpenClaim := { program := "ytoifjckhccbmlaagreatdoor", sum := "49bc80803e1e19aedc5c39bf7578a79de56f2bd6e6beaad094b93cea4473144c", func := "pub-twineward/laws.FnWriteBinary", spec := "fnWriteBinary", inPlace := ["math.Float64frombits", "math.Float64bits"], unfollowed := true, recurses := true, named := ["io.EOF", "io.ErrUnexpectedEOF", "bytes.ErrTooLarge"], apart := false, laid := [("io.EOF", laid_io_EOF), ("io.ErrUnexpectedEOF", laid_io_ErrUnexpectedEOF), ("bytes.ErrTooLarge", laid_bytes_ErrTooLarge)], narrowed := true }
def FnWriteBinaryUptoSaid : Prop := fnWriteBinaryUptoRow.holds Tryz.pinned (OpenSpec.upto fnWriteBinarySpec)

/-- 'laws.FnBare', WHERE WHAT IT READS IS OF BULK AT MOST 1048576: true; the input reads as it did. -/
def fnBareUptoRow : OpenClaim := { program := "ytoifjckhccbmlaagreatdoor", sum := "49bc80803e1e19aedc5c39bf7578a79de56f2bd6e6beaad094b93cea4473144c", func := "pub-twineward/laws.FnBare", spec := "fnBare", inPlace := ["math.Float64frombits", "math.Float64bits"], unfollowed := true, recurses := true, named := ["io.EOF", "io.ErrUnexpectedEOF", "bytes.ErrTooLarge"], apart := false, laid := [("io.EOF", laid_io_EOF), ("io.ErrUnexpectedEOF", laid_io_ErrUnexpectedEOF), ("bytes.ErrTooLarge", laid_bytes_ErrTooLarge)], narrowed := true }
def FnBareUptoSaid : Prop := fnBareUptoRow.holds Tryz.pinned (OpenSpec.upto fnBareSpec)

/-- 'laws.FnBinaryField', WHERE WHAT IT READS IS OF BULK AT MOST 1048576: true; the input reads as it did. -/
def fnBinaryFieldUptoRow : OpenClaim := { program := "ytoifjckhccbmlaagreatdoor", sum := "49bc80803e1e19aedc5c39bf7578a79de56f2bd6e6beaad094b93cea4473144c", func := "pub-twineward/laws.FnBinaryField", spec := "fnBinaryField", inPlace := ["math.Float64frombits", "math.Float64bits"], unfollowed := true, recurses := true, named := ["io.EOF", "io.ErrUnexpectedEOF", "bytes.ErrTooLarge"], apart := false, laid := [("io.EOF", laid_io_EOF), ("io.ErrUnexpectedEOF", laid_io_ErrUnexpectedEOF), ("bytes.ErrTooLarge", laid_bytes_ErrTooLarge)], narrowed := true }
def FnBinaryFieldUptoSaid : Prop := fnBinaryFieldUptoRow.holds Tryz.pinned (OpenSpec.upto fnBinaryFieldSpec)

/-- 'laws.FnBinaryLists', WHERE WHAT IT READS IS OF BULK AT MOST 1048576: true; the input reads as it did. -/
def fnBinaryListsUptoRow : OpenClaim := { program := "ytoifjckhccbmlaagreatdoor", sum := "49bc80803e1e19aedc5c39bf7578a79de56f2bd6e6beaad094b93cea4473144c", func := "pub-twineward/laws.FnBinaryLists", spec := "fnBinaryLists", inPlace := ["math.Float64frombits", "math.Float64bits"], unfollowed := true, recurses := true, named := ["io.EOF", "io.ErrUnexpectedEOF", "bytes.ErrTooLarge"], apart := false, laid := [("io.EOF", laid_io_EOF), ("io.ErrUnexpectedEOF", laid_io_ErrUnexpectedEOF), ("bytes.ErrTooLarge", laid_bytes_ErrTooLarge)], narrowed := true }
def FnBinaryListsUptoSaid : Prop := fnBinaryListsUptoRow.holds Tryz.pinned (OpenSpec.upto fnBinaryListsSpec)

/-- 'laws.FnBinaryMaps', WHERE WHAT IT READS IS OF BULK AT MOST 1048576: true; the input reads as it did. -/
def fnBinaryMapsUptoRow : OpenClaim := { program := "ytoifjckhccbmlaagreatdoor", sum := "49bc80803e1e19aedc5c39bf7578a79de56f2bd6e6beaad094b93cea4473144c", func := "pub-twineward/laws.FnBinaryMaps", spec := "fnBinaryMaps", inPlace := ["math.Float64frombits", "math.Float64bits"], unfollowed := true, recurses := true, named := ["io.EOF", "io.ErrUnexpectedEOF", "bytes.ErrTooLarge"], apart := false, laid := [("io.EOF", laid_io_EOF), ("io.ErrUnexpectedEOF", laid_io_ErrUnexpectedEOF), ("bytes.ErrTooLarge", laid_bytes_ErrTooLarge)], narrowed := true }
def FnBinaryMapsUptoSaid : Prop := fnBinaryMapsUptoRow.holds Tryz.pinned (OpenSpec.upto fnBinaryMapsSpec)

/-- 'laws.FnBinaryMessages', WHERE WHAT IT READS IS OF BULK AT MOST 1048576: true; the input reads as it did. -/
def fnBinaryMessagesUptoRow : OpenClaim := { program := "ytoifjckhccbmlaagreatdoor", sum := "49bc80803e1e19aedc5c39bf7578a79de56f2bd6e6beaad094b93cea4473144c", func := "pub-twineward/laws.FnBinaryMessages", spec := "fnBinaryMessages", inPlace := ["math.Float64frombits", "math.Float64bits"], unfollowed := true, recurses := true, named := ["io.EOF", "io.ErrUnexpectedEOF", "bytes.ErrTooLarge"], apart := false, laid := [("io.EOF", laid_io_EOF), ("io.ErrUnexpectedEOF", laid_io_ErrUnexpectedEOF), ("bytes.ErrTooLarge", laid_bytes_ErrTooLarge)], narrowed := true }
def FnBinaryMessagesUptoSaid : Prop := fnBinaryMessagesUptoRow.holds Tryz.pinned (OpenSpec.upto fnBinaryMessagesSpec)

/-- 'laws.FnBinaryNumbers', WHERE WHAT IT READS IS OF BULK AT MOST 1048576: true; the input reads as it did. -/
def fnBinaryNumbersUptoRow : OpenClaim := { program := "ytoifjckhccbmlaagreatdoor", sum := "49bc80803e1e19aedc5c39bf7578a79de56f2bd6e6beaad094b93cea4473144c", func := "pub-twineward/laws.FnBinaryNumbers", spec := "fnBinaryNumbers", inPlace := ["math.Float64frombits", "math.Float64bits"], unfollowed := true, recurses := true, named := ["io.EOF", "io.ErrUnexpectedEOF", "bytes.ErrTooLarge"], apart := false, laid := [("io.EOF", laid_io_EOF), ("io.ErrUnexpectedEOF", laid_io_ErrUnexpectedEOF), ("bytes.ErrTooLarge", laid_bytes_ErrTooLarge)], narrowed := true }
def FnBinaryNumbersUptoSaid : Prop := fnBinaryNumbersUptoRow.holds Tryz.pinned (OpenSpec.upto fnBinaryNumbersSpec)

/-- 'laws.FnBinaryTexts', WHERE WHAT IT READS IS OF BULK AT MOST 1048576: true; the input reads as it did. -/
def fnBinaryTextsUptoRow : OpenClaim := { program := "ytoifjckhccbmlaagreatdoor", sum := "49bc80803e1e19aedc5c39bf7578a79de56f2bd6e6beaad094b93cea4473144c", func := "pub-twineward/laws.FnBinaryTexts", spec := "fnBinaryTexts", inPlace := ["math.Float64frombits", "math.Float64bits"], unfollowed := true, recurses := true, named := ["io.EOF", "io.ErrUnexpectedEOF", "bytes.ErrTooLarge"], apart := false, laid := [("io.EOF", laid_io_EOF), ("io.ErrUnexpectedEOF", laid_io_ErrUnexpectedEOF), ("bytes.ErrTooLarge", laid_bytes_ErrTooLarge)], narrowed := true }
def FnBinaryTextsUptoSaid : Prop := fnBinaryTextsUptoRow.holds Tryz.pinned (OpenSpec.upto fnBinaryTextsSpec)

end Rows
end Go.Proofs.YtoifjckhccbmlaaGreatDoor
