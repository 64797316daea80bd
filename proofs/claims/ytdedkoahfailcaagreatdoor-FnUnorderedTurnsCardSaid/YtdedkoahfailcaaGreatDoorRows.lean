/-
  NARROWER THAN 'FOR EVERY INPUT', by the rows' own cells (each row's printed sentence says how): FnLimits: laid · FnUnorderedTurns: laid · FnTypeName: laid · FnTypeNames: laid · FnUuid: laid · FnUuidBack: laid · FnVarint: laid · FnPieces: laid.
  DERIVED. THE GIVEN ROWS OF THIS SEAT. 8 by the template 'for every input the law returns true; each argument reads behind the call as it read before'; 0 by the template 'total and deterministic' (their statements: YtdedkoahfailcaaGreatDoorTotals.lean).
  GIVEN WITH THE SEED: the statements are not yours to turn. If you find one false, say at which input.
  Laid BY PROGRAM, IN A SANDBOX (cutbox-rows.mjs): the forced cells as the released guide's own fill.sh prints them over the translation b0a853fd3067ca2f… (all of the seat's roots in one cut). By AI agents, Wed Nov 11 2026. No macro, syntax, notation, axiom, sorry.
-/
import Derived.Test.YtdedkoahfailcaaGreatDoorChecked
import GoSem.Claim
import GoSem.ClaimJoined
import GoSem.ClaimMapViews
import Derived.JoinedTies
import Derived.KernelRfl
namespace Go.Proofs.YtdedkoahfailcaaGreatDoor
/- THE CELL 'sum', in the pinned program and in every row, IS THE sha256 OF THE DUMP (.gsa) THAT YtdedkoahfailcaaGreatDoorProg.lean LOADS. Nothing in Lean hashes anything: it is a label: what it is worth is what the hold of that sum in a sandbox is worth. -/
noncomputable def Tryz.pinned : Pinned := { name := "ytdedkoahfailcaagreatdoor", sum := "b0a853fd3067ca2f552093738a3113b73e3216bca095aa12f3716e1319460463", checked := Tryz.checked }
namespace Rows
def none {H : Type} : Left H := { results := [], args := [] }

/- WHAT THE LISTED PACKAGE-LEVEL VARIABLES READ AS WHEN THE CALL BEGINS. Each datum BY PROGRAM (the guide's laid-datum.mjs) off the statement by which the dump's own 'gosem.cut.vars' lays the variable. In a bare row this is a premise. The card (YtdedkoahfailcaaGreatDoorCards.lean) ties it to the program's text. -/
def laid_io_EOF {H : Type} : DataW H := .iface "*errors.errorString" (.ptr (.agg [.lit (.string [69, 79, 70])]))
def laid_io_ErrUnexpectedEOF {H : Type} : DataW H := .iface "*errors.errorString" (.ptr (.agg [.lit (.string [117, 110, 101, 120, 112, 101, 99, 116, 101, 100, 32, 69, 79, 70])]))
def laid_bytes_ErrTooLarge {H : Type} : DataW H := .iface "*errors.errorString" (.ptr (.agg [.lit (.string [98, 121, 116, 101, 115, 46, 66, 117, 102, 102, 101, 114, 58, 32, 116, 111, 111, 32, 108, 97, 114, 103, 101])]))
def laid_io_ErrShortBuffer {H : Type} : DataW H := .iface "*errors.errorString" (.ptr (.agg [.lit (.string [115, 104, 111, 114, 116, 32, 98, 117, 102, 102, 101, 114])]))

/-- 'laws.FnLimits': WHATEVER THE INPUT: true; the input reads as it did. -/
def fnLimitsSpec : ChangeSpec := { name := "fnLimits", fn := fun _ => fun
  | [d] => { results := [.lit (.bool true)], args := [d] }
  | _ => none }
def fnLimitsRow : OpenClaim := { program := "ytdedkoahfailcaagreatdoor", sum := "b0a853fd3067ca2f552093738a3113b73e3216bca095aa12f3716e1319460463", func := "pub-twineward/laws.FnLimits", spec := "fnLimits", inPlace := ["math.Float64frombits", "math.Float64bits"], unfollowed := true, recurses := true, named := ["io.EOF", "io.ErrUnexpectedEOF", "bytes.ErrTooLarge"], apart := false, laid := [("io.EOF", laid_io_EOF), ("io.ErrUnexpectedEOF", laid_io_ErrUnexpectedEOF), ("bytes.ErrTooLarge", laid_bytes_ErrTooLarge)] }
def FnLimitsSaid : Prop := fnLimitsRow.holds Tryz.pinned (OpenSpec.ofChange fnLimitsSpec)

/-- ITS FALSE NEIGHBOUR: 'it returns false'. Refute it at one input. -/
def fnLimitsWrong : ChangeSpec := { name := "fnLimits", fn := fun _ => fun
  | [d] => { results := [.lit (.bool false)], args := [d] }
  | _ => none }
def FnLimitsWrongFalsely : Prop := fnLimitsRow.holds Tryz.pinned (OpenSpec.ofChange fnLimitsWrong)

/-- 'laws.FnUnorderedTurns': WHATEVER THE INPUT: true; the input reads as it did. -/
def fnUnorderedTurnsSpec : ChangeSpec := { name := "fnUnorderedTurns", fn := fun _ => fun
  | [d1, d2, d3, d4, d5] => { results := [.lit (.bool true)], args := [d1, d2, d3, d4, d5] }
  | _ => none }
def fnUnorderedTurnsRow : OpenClaim := { program := "ytdedkoahfailcaagreatdoor", sum := "b0a853fd3067ca2f552093738a3113b73e3216bca095aa12f3716e1319460463", func := "pub-twineward/laws.FnUnorderedTurns", spec := "fnUnorderedTurns", inPlace := ["math.Float64frombits", "math.Float64bits"], unfollowed := true, recurses := true, named := ["io.EOF", "io.ErrUnexpectedEOF", "bytes.ErrTooLarge"], apart := false, laid := [("io.EOF", laid_io_EOF), ("io.ErrUnexpectedEOF", laid_io_ErrUnexpectedEOF), ("bytes.ErrTooLarge", laid_bytes_ErrTooLarge)] }
def FnUnorderedTurnsSaid : Prop := fnUnorderedTurnsRow.holds Tryz.pinned (OpenSpec.ofChange fnUnorderedTurnsSpec)

/-- ITS FALSE NEIGHBOUR: 'it returns false'. Refute it at one input. -/
def fnUnorderedTurnsWrong : ChangeSpec := { name := "fnUnorderedTurns", fn := fun _ => fun
  | [d1, d2, d3, d4, d5] => { results := [.lit (.bool false)], args := [d1, d2, d3, d4, d5] }
  | _ => none }
def FnUnorderedTurnsWrongFalsely : Prop := fnUnorderedTurnsRow.holds Tryz.pinned (OpenSpec.ofChange fnUnorderedTurnsWrong)

/-- 'laws.FnTypeName': WHATEVER THE INPUT: true; the input reads as it did. -/
def fnTypeNameSpec : ChangeSpec := { name := "fnTypeName", fn := fun _ => fun
  | [d] => { results := [.lit (.bool true)], args := [d] }
  | _ => none }
def fnTypeNameRow : OpenClaim := { program := "ytdedkoahfailcaagreatdoor", sum := "b0a853fd3067ca2f552093738a3113b73e3216bca095aa12f3716e1319460463", func := "pub-twineward/laws.FnTypeName", spec := "fnTypeName", inPlace := ["math.Float64frombits", "math.Float64bits"], unfollowed := true, recurses := true, named := ["io.EOF", "io.ErrUnexpectedEOF", "bytes.ErrTooLarge"], apart := false, laid := [("io.EOF", laid_io_EOF), ("io.ErrUnexpectedEOF", laid_io_ErrUnexpectedEOF), ("bytes.ErrTooLarge", laid_bytes_ErrTooLarge)] }
def FnTypeNameSaid : Prop := fnTypeNameRow.holds Tryz.pinned (OpenSpec.ofChange fnTypeNameSpec)

/-- ITS FALSE NEIGHBOUR: 'it returns false'. Refute it at one input. -/
def fnTypeNameWrong : ChangeSpec := { name := "fnTypeName", fn := fun _ => fun
  | [d] => { results := [.lit (.bool false)], args := [d] }
  | _ => none }
def FnTypeNameWrongFalsely : Prop := fnTypeNameRow.holds Tryz.pinned (OpenSpec.ofChange fnTypeNameWrong)

/-- 'laws.FnTypeNames': WHATEVER THE INPUT: true; the input reads as it did. -/
def fnTypeNamesSpec : ChangeSpec := { name := "fnTypeNames", fn := fun _ => fun
  | [d1, d2] => { results := [.lit (.bool true)], args := [d1, d2] }
  | _ => none }
def fnTypeNamesRow : OpenClaim := { program := "ytdedkoahfailcaagreatdoor", sum := "b0a853fd3067ca2f552093738a3113b73e3216bca095aa12f3716e1319460463", func := "pub-twineward/laws.FnTypeNames", spec := "fnTypeNames", inPlace := ["math.Float64frombits", "math.Float64bits"], unfollowed := true, recurses := true, named := ["io.EOF", "io.ErrUnexpectedEOF", "bytes.ErrTooLarge"], apart := false, laid := [("io.EOF", laid_io_EOF), ("io.ErrUnexpectedEOF", laid_io_ErrUnexpectedEOF), ("bytes.ErrTooLarge", laid_bytes_ErrTooLarge)] }
def FnTypeNamesSaid : Prop := fnTypeNamesRow.holds Tryz.pinned (OpenSpec.ofChange fnTypeNamesSpec)

/-- ITS FALSE NEIGHBOUR: 'it returns false'. Refute it at one input. -/
def fnTypeNamesWrong : ChangeSpec := { name := "fnTypeNames", fn := fun _ => fun
  | [d1, d2] => { results := [.lit (.bool false)], args := [d1, d2] }
  | _ => none }
def FnTypeNamesWrongFalsely : Prop := fnTypeNamesRow.holds Tryz.pinned (OpenSpec.ofChange fnTypeNamesWrong)

/-- 'laws.FnUuid': WHATEVER THE INPUT: true; the input reads as it did. -/
def fnUuidSpec : ChangeSpec := { name := "fnUuid", fn := fun _ => fun
  | [d] => { results := [.lit (.bool true)], args := [d] }
  | _ => none }
def fnUuidRow : OpenClaim := { program := "ytdedkoahfailcaagreatdoor", sum := "b0a853fd3067ca2f552093738a3113b73e3216bca095aa12f3716e1319460463", func := "pub-twineward/laws.FnUuid", spec := "fnUuid", inPlace := ["math.Float64frombits", "math.Float64bits"], unfollowed := true, recurses := true, named := ["io.EOF", "io.ErrUnexpectedEOF", "bytes.ErrTooLarge"], apart := false, laid := [("io.EOF", laid_io_EOF), ("io.ErrUnexpectedEOF", laid_io_ErrUnexpectedEOF), ("bytes.ErrTooLarge", laid_bytes_ErrTooLarge)] }
def FnUuidSaid : Prop := fnUuidRow.holds Tryz.pinned (OpenSpec.ofChange fnUuidSpec)

/-- ITS FALSE NEIGHBOUR: 'it returns false'. Refute it at one input. -/
def fnUuidWrong : ChangeSpec := { name := "fnUuid", fn := fun _ => fun
  | [d] => { results := [.lit (.bool false)], args := [d] }
  | _ => none }
def FnUuidWrongFalsely : Prop := fnUuidRow.holds Tryz.pinned (OpenSpec.ofChange fnUuidWrong)

/-- 'laws.FnUuidBack': WHATEVER THE INPUT: true; the input reads as it did. -/
def fnUuidBackSpec : ChangeSpec := { name := "fnUuidBack", fn := fun _ => fun
  | [d1, d2] => { results := [.lit (.bool true)], args := [d1, d2] }
  | _ => none }
def fnUuidBackRow : OpenClaim := { program := "ytdedkoahfailcaagreatdoor", sum := "b0a853fd3067ca2f552093738a3113b73e3216bca095aa12f3716e1319460463", func := "pub-twineward/laws.FnUuidBack", spec := "fnUuidBack", inPlace := ["math.Float64frombits", "math.Float64bits"], unfollowed := true, recurses := true, named := ["io.EOF", "io.ErrUnexpectedEOF", "bytes.ErrTooLarge"], apart := false, laid := [("io.EOF", laid_io_EOF), ("io.ErrUnexpectedEOF", laid_io_ErrUnexpectedEOF), ("bytes.ErrTooLarge", laid_bytes_ErrTooLarge)] }
def FnUuidBackSaid : Prop := fnUuidBackRow.holds Tryz.pinned (OpenSpec.ofChange fnUuidBackSpec)

/-- ITS FALSE NEIGHBOUR: 'it returns false'. Refute it at one input. -/
def fnUuidBackWrong : ChangeSpec := { name := "fnUuidBack", fn := fun _ => fun
  | [d1, d2] => { results := [.lit (.bool false)], args := [d1, d2] }
  | _ => none }
def FnUuidBackWrongFalsely : Prop := fnUuidBackRow.holds Tryz.pinned (OpenSpec.ofChange fnUuidBackWrong)

/-- 'laws.FnVarint': WHATEVER THE INPUT: true; the input reads as it did. -/
def fnVarintSpec : ChangeSpec := { name := "fnVarint", fn := fun _ => fun
  | [d1, d2] => { results := [.lit (.bool true)], args := [d1, d2] }
  | _ => none }
def fnVarintRow : OpenClaim := { program := "ytdedkoahfailcaagreatdoor", sum := "b0a853fd3067ca2f552093738a3113b73e3216bca095aa12f3716e1319460463", func := "pub-twineward/laws.FnVarint", spec := "fnVarint", inPlace := ["math.Float64frombits", "math.Float64bits"], unfollowed := true, recurses := true, named := ["io.EOF", "io.ErrUnexpectedEOF", "bytes.ErrTooLarge"], apart := false, laid := [("io.EOF", laid_io_EOF), ("io.ErrUnexpectedEOF", laid_io_ErrUnexpectedEOF), ("bytes.ErrTooLarge", laid_bytes_ErrTooLarge)] }
def FnVarintSaid : Prop := fnVarintRow.holds Tryz.pinned (OpenSpec.ofChange fnVarintSpec)

/-- ITS FALSE NEIGHBOUR: 'it returns false'. Refute it at one input. -/
def fnVarintWrong : ChangeSpec := { name := "fnVarint", fn := fun _ => fun
  | [d1, d2] => { results := [.lit (.bool false)], args := [d1, d2] }
  | _ => none }
def FnVarintWrongFalsely : Prop := fnVarintRow.holds Tryz.pinned (OpenSpec.ofChange fnVarintWrong)

/-- 'laws.FnPieces': WHATEVER THE INPUT: true; the input reads as it did. -/
def fnPiecesSpec : ChangeSpec := { name := "fnPieces", fn := fun _ => fun
  | [d1, d2, d3] => { results := [.lit (.bool true)], args := [d1, d2, d3] }
  | _ => none }
def fnPiecesRow : OpenClaim := { program := "ytdedkoahfailcaagreatdoor", sum := "b0a853fd3067ca2f552093738a3113b73e3216bca095aa12f3716e1319460463", func := "pub-twineward/laws.FnPieces", spec := "fnPieces", inPlace := ["math.Float64frombits", "math.Float64bits"], unfollowed := true, recurses := true, named := ["io.EOF", "io.ErrUnexpectedEOF", "bytes.ErrTooLarge", "io.ErrShortBuffer"], apart := false, laid := [("io.ErrShortBuffer", laid_io_ErrShortBuffer), ("io.EOF", laid_io_EOF), ("io.ErrUnexpectedEOF", laid_io_ErrUnexpectedEOF), ("bytes.ErrTooLarge", laid_bytes_ErrTooLarge)] }
def FnPiecesSaid : Prop := fnPiecesRow.holds Tryz.pinned (OpenSpec.ofChange fnPiecesSpec)

/-- ITS FALSE NEIGHBOUR: 'it returns false'. Refute it at one input. -/
def fnPiecesWrong : ChangeSpec := { name := "fnPieces", fn := fun _ => fun
  | [d1, d2, d3] => { results := [.lit (.bool false)], args := [d1, d2, d3] }
  | _ => none }
def FnPiecesWrongFalsely : Prop := fnPiecesRow.holds Tryz.pinned (OpenSpec.ofChange fnPiecesWrong)

/- THE SECOND FORM. 'bulk': how many values and letters a reading holds, each counted each time it is reached (what is shared counts as often as it is met; a slice's spare places count too). A statement '..UptoSaid' is the law's where the arguments, and the package variables that the reading takes, are together of bulk at most 1048576: NARROWER than '..Said'. Prove '..Said' where nothing that the law and all that it calls make is longer than what came in: it says more and counts as full. Else prove '..UptoSaid'. A law counts once. -/
mutual
def uptoBulk {H : Type} : DataW H → Nat
  | .lit (.string bytes) => bytes.length + 1
  | .lit _ => 1
  | .nil => 1
  | .ptr d => uptoBulk d + 1
  | .slice elems spare => uptoBulkAll elems + uptoBulkAll spare + 1
  | .agg parts => uptoBulkAll parts + 1
  | .iface _ d => uptoBulk d + 1
  | .map entries => uptoBulkEntries entries + 1
  | .held _ => 1
def uptoBulkAll {H : Type} : List (DataW H) → Nat
  | [] => 0
  | d :: r => uptoBulk d + uptoBulkAll r
def uptoBulkEntries {H : Type} : List (Lit × DataW H) → Nat
  | [] => 0
  | x :: r => uptoBulkEntry x + uptoBulkEntries r
def uptoBulkEntry {H : Type} : Lit × DataW H → Nat
  | (.string bytes, d) => bytes.length + uptoBulk d + 1
  | (_, d) => uptoBulk d + 1
 end
def uptoSmall : (H : Type) → List (DataW H) → Bool := fun _ ds => decide (uptoBulkAll ds ≤ 1048576)
def OpenSpec.upto (s : _root_.Go.ChangeSpec) : _root_.Go.OpenSpec := { _root_.Go.OpenSpec.ofChange s with cond := some uptoSmall }

/-- 'laws.FnLimits', WHERE WHAT IT READS IS OF BULK AT MOST 1048576: true; the input reads as it did. -/
def fnLimitsUptoRow : OpenClaim := { program := "ytdedkoahfailcaagreatdoor", sum := "b0a853fd3067ca2f552093738a3113b73e3216bca095aa12f3716e1319460463", func := "pub-twineward/laws.FnLimits", spec := "fnLimits", inPlace := ["math.Float64frombits", "math.Float64bits"], unfollowed := true, recurses := true, named := ["io.EOF", "io.ErrUnexpectedEOF", "bytes.ErrTooLarge"], apart := false, laid := [("io.EOF", laid_io_EOF), ("io.ErrUnexpectedEOF", laid_io_ErrUnexpectedEOF), ("bytes.ErrTooLarge", laid_bytes_ErrTooLarge)], narrowed := true }
def FnLimitsUptoSaid : Prop := fnLimitsUptoRow.holds Tryz.pinned (OpenSpec.upto fnLimitsSpec)

/-- 'laws.FnUnorderedTurns', WHERE WHAT IT READS IS OF BULK AT MOST 1048576: true; the input reads as it did. -/
def fnUnorderedTurnsUptoRow : OpenClaim := { program := "ytdedkoahfailcaagreatdoor", sum := "b0a853fd3067ca2f552093738a3113b73e3216bca095aa12f3716e1319460463", func := "pub-twineward/laws.FnUnorderedTurns", spec := "fnUnorderedTurns", inPlace := ["math.Float64frombits", "math.Float64bits"], unfollowed := true, recurses := true, named := ["io.EOF", "io.ErrUnexpectedEOF", "bytes.ErrTooLarge"], apart := false, laid := [("io.EOF", laid_io_EOF), ("io.ErrUnexpectedEOF", laid_io_ErrUnexpectedEOF), ("bytes.ErrTooLarge", laid_bytes_ErrTooLarge)], narrowed := true }
def FnUnorderedTurnsUptoSaid : Prop := fnUnorderedTurnsUptoRow.holds Tryz.pinned (OpenSpec.upto fnUnorderedTurnsSpec)

/-- 'laws.FnTypeName', WHERE WHAT IT READS IS OF BULK AT MOST 1048576: true; the input reads as it did. -/
def fnTypeNameUptoRow : OpenClaim := { program := "ytdedkoahfailcaagreatdoor", sum := "b0a853fd3067ca2f552093738a3113b73e3216bca095aa12f3716e1319460463", func := "pub-twineward/laws.FnTypeName", spec := "fnTypeName", inPlace := ["math.Float64frombits", "math.Float64bits"], unfollowed := true, recurses := true, named := ["io.EOF", "io.ErrUnexpectedEOF", "bytes.ErrTooLarge"], apart := false, laid := [("io.EOF", laid_io_EOF), ("io.ErrUnexpectedEOF", laid_io_ErrUnexpectedEOF), ("bytes.ErrTooLarge", laid_bytes_ErrTooLarge)], narrowed := true }
def FnTypeNameUptoSaid : Prop := fnTypeNameUptoRow.holds Tryz.pinned (OpenSpec.upto fnTypeNameSpec)

/-- 'laws.FnTypeNames', WHERE WHAT IT READS IS OF BULK AT MOST 1048576: true; the input reads as it did. -/
def fnTypeNamesUptoRow : OpenClaim := { program := "ytdedkoahfailcaagreatdoor", sum := "b0a853fd3067ca2f552093738a3113b73e3216bca095aa12f3716e1319460463", func := "pub-twineward/laws.FnTypeNames", spec := "fnTypeNames", inPlace := ["math.Float64frombits", "math.Float64bits"], unfollowed := true, recurses := true, named := ["io.EOF", "io.ErrUnexpectedEOF", "bytes.ErrTooLarge"], apart := false, laid := [("io.EOF", laid_io_EOF), ("io.ErrUnexpectedEOF", laid_io_ErrUnexpectedEOF), ("bytes.ErrTooLarge", laid_bytes_ErrTooLarge)], narrowed := true }
def FnTypeNamesUptoSaid : Prop := fnTypeNamesUptoRow.holds Tryz.pinned (OpenSpec.upto fnTypeNamesSpec)

/-- 'laws.FnUuid', WHERE WHAT IT READS IS OF BULK AT MOST 1048576: true; the input reads as it did. -/
def fnUuidUptoRow : OpenClaim := { program := "ytdedkoahfailcaagreatdoor", sum := "b0a853fd3067ca2f552093738a3113b73e3216bca095aa12f3716e1319460463", func := "pub-twineward/laws.FnUuid", spec := "fnUuid", inPlace := ["math.Float64frombits", "math.Float64bits"], unfollowed := true, recurses := true, named := ["io.EOF", "io.ErrUnexpectedEOF", "bytes.ErrTooLarge"], apart := false, laid := [("io.EOF", laid_io_EOF), ("io.ErrUnexpectedEOF", laid_io_ErrUnexpectedEOF), ("bytes.ErrTooLarge", laid_bytes_ErrTooLarge)], narrowed := true }
def FnUuidUptoSaid : Prop := fnUuidUptoRow.holds Tryz.pinned (OpenSpec.upto fnUuidSpec)

/-- 'laws.FnUuidBack', WHERE WHAT IT READS IS OF BULK AT MOST 1048576: true; the input reads as it did. -/
def fnUuidBackUptoRow : OpenClaim := { program := "ytdedkoahfailcaagreatdoor", sum := "b0a853fd3067ca2f552093738a3113b73e3216bca095aa12f3716e1319460463", func := "pub-twineward/laws.FnUuidBack", spec := "fnUuidBack", inPlace := ["math.Float64frombits", "math.Float64bits"], unfollowed := true, recurses := true, named := ["io.EOF", "io.ErrUnexpectedEOF", "bytes.ErrTooLarge"], apart := false, laid := [("io.EOF", laid_io_EOF), ("io.ErrUnexpectedEOF", laid_io_ErrUnexpectedEOF), ("bytes.ErrTooLarge", laid_bytes_ErrTooLarge)], narrowed := true }
def FnUuidBackUptoSaid : Prop := fnUuidBackUptoRow.holds Tryz.pinned (OpenSpec.upto fnUuidBackSpec)

/-- 'laws.FnVarint', WHERE WHAT IT READS IS OF BULK AT MOST 1048576: true; the input reads as it did. -/
def fnVarintUptoRow : OpenClaim := { program := "ytdedkoahfailcaagreatdoor", sum := "b0a853fd3067ca2f552093738a3113b73e3216bca095aa12f3716e1319460463", func := "pub-twineward/laws.FnVarint", spec := "fnVarint", inPlace := ["math.Float64frombits", "math.Float64bits"], unfollowed := true, recurses := true, named := ["io.EOF", "io.ErrUnexpectedEOF", "bytes.ErrTooLarge"], apart := false, laid := [("io.EOF", laid_io_EOF), ("io.ErrUnexpectedEOF", laid_io_ErrUnexpectedEOF), ("bytes.ErrTooLarge", laid_bytes_ErrTooLarge)], narrowed := true }
def FnVarintUptoSaid : Prop := fnVarintUptoRow.holds Tryz.pinned (OpenSpec.upto fnVarintSpec)

/-- 'laws.FnPieces', WHERE WHAT IT READS IS OF BULK AT MOST 1048576: true; the input reads as it did. -/
def fnPiecesUptoRow : OpenClaim := { program := "ytdedkoahfailcaagreatdoor", sum := "b0a853fd3067ca2f552093738a3113b73e3216bca095aa12f3716e1319460463", func := "pub-twineward/laws.FnPieces", spec := "fnPieces", inPlace := ["math.Float64frombits", "math.Float64bits"], unfollowed := true, recurses := true, named := ["io.EOF", "io.ErrUnexpectedEOF", "bytes.ErrTooLarge", "io.ErrShortBuffer"], apart := false, laid := [("io.ErrShortBuffer", laid_io_ErrShortBuffer), ("io.EOF", laid_io_EOF), ("io.ErrUnexpectedEOF", laid_io_ErrUnexpectedEOF), ("bytes.ErrTooLarge", laid_bytes_ErrTooLarge)], narrowed := true }
def FnPiecesUptoSaid : Prop := fnPiecesUptoRow.holds Tryz.pinned (OpenSpec.upto fnPiecesSpec)

end Rows
end Go.Proofs.YtdedkoahfailcaaGreatDoor
