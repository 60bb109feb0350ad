/-
  NARROWER THAN 'FOR EVERY INPUT', by the rows' own cells (each row's printed sentence says how): FnZigzag: laid · FnZigzagBack: laid · FnPrealloc: laid · FnFault: laid · FnUuidText: laid · FnUnordered: laid · FnLimitsHold: laid · FnUnvarint: laid · FnPiecesWhole: laid.
  DERIVED. THE GIVEN ROWS OF THIS SEAT. 9 by the template 'for every input the law returns true; each argument reads behind the call as it read before'; 0 by the template 'total and deterministic' (their statements: YteadkokfepjgbaaGreatDoorTotals.lean).
  GIVEN WITH THE SEED: the statements are not yours to turn. If you find one false, say at which input.
  Laid BY PROGRAM, IN A SANDBOX (cutbox-rows.mjs): the forced cells as the released guide's own fill.sh prints them over the translation b9f9895d84cc0448… (all of the seat's roots in one cut). By AI agents, Wed Nov 11 2026. No macro, syntax, notation, axiom, sorry.
-/
import Derived.Test.YteadkokfepjgbaaGreatDoorChecked
import GoSem.Claim
import GoSem.ClaimJoined
import GoSem.ClaimMapViews
import Derived.JoinedTies
import Derived.KernelRfl
namespace Go.Proofs.YteadkokfepjgbaaGreatDoor
/- THE CELL 'sum', in the pinned program and in every row, IS THE sha256 OF THE DUMP (.gsa) THAT YteadkokfepjgbaaGreatDoorProg.lean LOADS. Nothing in Lean hashes anything: it is a label: what it is worth is what the hold of that sum in a sandbox is worth. -/
noncomputable def Tryz.pinned : Pinned := { name := "yteadkokfepjgbaagreatdoor", sum := "b9f9895d84cc0448d069088a61a1e9e6a19130abe4420e28ec7cc95ff21cc91e", checked := Tryz.checked }
namespace Rows
def none {H : Type} : Left H := { results := [], args := [] }

/- WHAT THE LISTED PACKAGE-LEVEL VARIABLES READ AS WHEN THE CALL BEGINS. Each datum BY PROGRAM (the guide's laid-datum.mjs) off the statement by which the dump's own 'gosem.cut.vars' lays the variable. In a bare row this is a premise. The card (YteadkokfepjgbaaGreatDoorCards.lean) ties it to the program's text. -/
def laid_io_EOF {H : Type} : DataW H := .iface "*errors.errorString" (.ptr (.agg [.lit (.string [69, 79, 70])]))
def laid_io_ErrUnexpectedEOF {H : Type} : DataW H := .iface "*errors.errorString" (.ptr (.agg [.lit (.string [117, 110, 101, 120, 112, 101, 99, 116, 101, 100, 32, 69, 79, 70])]))
def laid_bytes_ErrTooLarge {H : Type} : DataW H := .iface "*errors.errorString" (.ptr (.agg [.lit (.string [98, 121, 116, 101, 115, 46, 66, 117, 102, 102, 101, 114, 58, 32, 116, 111, 111, 32, 108, 97, 114, 103, 101])]))
def laid_io_ErrShortBuffer {H : Type} : DataW H := .iface "*errors.errorString" (.ptr (.agg [.lit (.string [115, 104, 111, 114, 116, 32, 98, 117, 102, 102, 101, 114])]))

/-- 'laws.FnZigzag': WHATEVER THE INPUT: true; the input reads as it did. -/
def fnZigzagSpec : ChangeSpec := { name := "fnZigzag", fn := fun _ => fun
  | [d1, d2] => { results := [.lit (.bool true)], args := [d1, d2] }
  | _ => none }
def fnZigzagRow : OpenClaim := { program := "yteadkokfepjgbaagreatdoor", sum := "b9f9895d84cc0448d069088a61a1e9e6a19130abe4420e28ec7cc95ff21cc91e", func := "pub-twineward/laws.FnZigzag", spec := "fnZigzag", inPlace := ["math.Float64frombits", "math.Float64bits"], unfollowed := true, recurses := true, named := ["io.EOF", "io.ErrUnexpectedEOF", "bytes.ErrTooLarge"], apart := false, laid := [("io.EOF", laid_io_EOF), ("io.ErrUnexpectedEOF", laid_io_ErrUnexpectedEOF), ("bytes.ErrTooLarge", laid_bytes_ErrTooLarge)] }
def FnZigzagSaid : Prop := fnZigzagRow.holds Tryz.pinned (OpenSpec.ofChange fnZigzagSpec)

/-- ITS FALSE NEIGHBOUR: 'it returns false'. Refute it at one input. -/
def fnZigzagWrong : ChangeSpec := { name := "fnZigzag", fn := fun _ => fun
  | [d1, d2] => { results := [.lit (.bool false)], args := [d1, d2] }
  | _ => none }
def FnZigzagWrongFalsely : Prop := fnZigzagRow.holds Tryz.pinned (OpenSpec.ofChange fnZigzagWrong)

/-- 'laws.FnZigzagBack': WHATEVER THE INPUT: true; the input reads as it did. -/
def fnZigzagBackSpec : ChangeSpec := { name := "fnZigzagBack", fn := fun _ => fun
  | [d] => { results := [.lit (.bool true)], args := [d] }
  | _ => none }
def fnZigzagBackRow : OpenClaim := { program := "yteadkokfepjgbaagreatdoor", sum := "b9f9895d84cc0448d069088a61a1e9e6a19130abe4420e28ec7cc95ff21cc91e", func := "pub-twineward/laws.FnZigzagBack", spec := "fnZigzagBack", inPlace := ["math.Float64frombits", "math.Float64bits"], unfollowed := true, recurses := true, named := ["io.EOF", "io.ErrUnexpectedEOF", "bytes.ErrTooLarge"], apart := false, laid := [("io.EOF", laid_io_EOF), ("io.ErrUnexpectedEOF", laid_io_ErrUnexpectedEOF), ("bytes.ErrTooLarge", laid_bytes_ErrTooLarge)] }
def FnZigzagBackSaid : Prop := fnZigzagBackRow.holds Tryz.pinned (OpenSpec.ofChange fnZigzagBackSpec)

/-- ITS FALSE NEIGHBOUR: 'it returns false'. Refute it at one input. -/
def fnZigzagBackWrong : ChangeSpec := { name := "fnZigzagBack", fn := fun _ => fun
  | [d] => { results := [.lit (.bool false)], args := [d] }
  | _ => none }
def FnZigzagBackWrongFalsely : Prop := fnZigzagBackRow.holds Tryz.pinned (OpenSpec.ofChange fnZigzagBackWrong)

/-- 'laws.FnPrealloc': WHATEVER THE INPUT: true; the input reads as it did. -/
def fnPreallocSpec : ChangeSpec := { name := "fnPrealloc", fn := fun _ => fun
  | [d1, d2] => { results := [.lit (.bool true)], args := [d1, d2] }
  | _ => none }
def fnPreallocRow : OpenClaim := { program := "yteadkokfepjgbaagreatdoor", sum := "b9f9895d84cc0448d069088a61a1e9e6a19130abe4420e28ec7cc95ff21cc91e", func := "pub-twineward/laws.FnPrealloc", spec := "fnPrealloc", inPlace := ["math.Float64frombits", "math.Float64bits"], unfollowed := true, recurses := true, named := ["io.EOF", "io.ErrUnexpectedEOF", "bytes.ErrTooLarge"], apart := false, laid := [("io.EOF", laid_io_EOF), ("io.ErrUnexpectedEOF", laid_io_ErrUnexpectedEOF), ("bytes.ErrTooLarge", laid_bytes_ErrTooLarge)] }
def FnPreallocSaid : Prop := fnPreallocRow.holds Tryz.pinned (OpenSpec.ofChange fnPreallocSpec)

/-- ITS FALSE NEIGHBOUR: 'it returns false'. Refute it at one input. -/
def fnPreallocWrong : ChangeSpec := { name := "fnPrealloc", fn := fun _ => fun
  | [d1, d2] => { results := [.lit (.bool false)], args := [d1, d2] }
  | _ => none }
def FnPreallocWrongFalsely : Prop := fnPreallocRow.holds Tryz.pinned (OpenSpec.ofChange fnPreallocWrong)

/-- 'laws.FnFault': WHATEVER THE INPUT: true; the input reads as it did. -/
def fnFaultSpec : ChangeSpec := { name := "fnFault", fn := fun _ => fun
  | [d] => { results := [.lit (.bool true)], args := [d] }
  | _ => none }
def fnFaultRow : OpenClaim := { program := "yteadkokfepjgbaagreatdoor", sum := "b9f9895d84cc0448d069088a61a1e9e6a19130abe4420e28ec7cc95ff21cc91e", func := "pub-twineward/laws.FnFault", spec := "fnFault", inPlace := ["math.Float64frombits", "math.Float64bits"], unfollowed := true, recurses := true, named := ["io.EOF", "io.ErrUnexpectedEOF", "bytes.ErrTooLarge"], apart := false, laid := [("io.EOF", laid_io_EOF), ("io.ErrUnexpectedEOF", laid_io_ErrUnexpectedEOF), ("bytes.ErrTooLarge", laid_bytes_ErrTooLarge)] }
def FnFaultSaid : Prop := fnFaultRow.holds Tryz.pinned (OpenSpec.ofChange fnFaultSpec)

/-- ITS FALSE NEIGHBOUR: 'it returns false'. Refute it at one input. -/
def fnFaultWrong : ChangeSpec := { name := "fnFault", fn := fun _ => fun
  | [d] => { results := [.lit (.bool false)], args := [d] }
  | _ => none }
def FnFaultWrongFalsely : Prop := fnFaultRow.holds Tryz.pinned (OpenSpec.ofChange fnFaultWrong)

/-- 'laws.FnUuidText': WHATEVER THE INPUT: true; the input reads as it did. -/
def fnUuidTextSpec : ChangeSpec := { name := "fnUuidText", fn := fun _ => fun
  | [d] => { results := [.lit (.bool true)], args := [d] }
  | _ => none }
def fnUuidTextRow : OpenClaim := { program := "yteadkokfepjgbaagreatdoor", sum := "b9f9895d84cc0448d069088a61a1e9e6a19130abe4420e28ec7cc95ff21cc91e", func := "pub-twineward/laws.FnUuidText", spec := "fnUuidText", inPlace := ["math.Float64frombits", "math.Float64bits"], unfollowed := true, recurses := true, named := ["io.EOF", "io.ErrUnexpectedEOF", "bytes.ErrTooLarge"], apart := false, laid := [("io.EOF", laid_io_EOF), ("io.ErrUnexpectedEOF", laid_io_ErrUnexpectedEOF), ("bytes.ErrTooLarge", laid_bytes_ErrTooLarge)] }
def FnUuidTextSaid : Prop := fnUuidTextRow.holds Tryz.pinned (OpenSpec.ofChange fnUuidTextSpec)

/-- ITS FALSE NEIGHBOUR: 'it returns false'. Refute it at one input. -/
def fnUuidTextWrong : ChangeSpec := { name := "fnUuidText", fn := fun _ => fun
  | [d] => { results := [.lit (.bool false)], args := [d] }
  | _ => none }
def FnUuidTextWrongFalsely : Prop := fnUuidTextRow.holds Tryz.pinned (OpenSpec.ofChange fnUuidTextWrong)

/-- 'laws.FnUnordered': WHATEVER THE INPUT: true; the input reads as it did. -/
def fnUnorderedSpec : ChangeSpec := { name := "fnUnordered", fn := fun _ => fun
  | [d1, d2, d3] => { results := [.lit (.bool true)], args := [d1, d2, d3] }
  | _ => none }
def fnUnorderedRow : OpenClaim := { program := "yteadkokfepjgbaagreatdoor", sum := "b9f9895d84cc0448d069088a61a1e9e6a19130abe4420e28ec7cc95ff21cc91e", func := "pub-twineward/laws.FnUnordered", spec := "fnUnordered", inPlace := ["math.Float64frombits", "math.Float64bits"], unfollowed := true, recurses := true, named := ["io.EOF", "io.ErrUnexpectedEOF", "bytes.ErrTooLarge"], apart := false, laid := [("io.EOF", laid_io_EOF), ("io.ErrUnexpectedEOF", laid_io_ErrUnexpectedEOF), ("bytes.ErrTooLarge", laid_bytes_ErrTooLarge)] }
def FnUnorderedSaid : Prop := fnUnorderedRow.holds Tryz.pinned (OpenSpec.ofChange fnUnorderedSpec)

/-- ITS FALSE NEIGHBOUR: 'it returns false'. Refute it at one input. -/
def fnUnorderedWrong : ChangeSpec := { name := "fnUnordered", fn := fun _ => fun
  | [d1, d2, d3] => { results := [.lit (.bool false)], args := [d1, d2, d3] }
  | _ => none }
def FnUnorderedWrongFalsely : Prop := fnUnorderedRow.holds Tryz.pinned (OpenSpec.ofChange fnUnorderedWrong)

/-- 'laws.FnLimitsHold': WHATEVER THE INPUT: true; the input reads as it did. -/
def fnLimitsHoldSpec : ChangeSpec := { name := "fnLimitsHold", fn := fun _ => fun
  | [d] => { results := [.lit (.bool true)], args := [d] }
  | _ => none }
def fnLimitsHoldRow : OpenClaim := { program := "yteadkokfepjgbaagreatdoor", sum := "b9f9895d84cc0448d069088a61a1e9e6a19130abe4420e28ec7cc95ff21cc91e", func := "pub-twineward/laws.FnLimitsHold", spec := "fnLimitsHold", inPlace := ["math.Float64frombits", "math.Float64bits"], unfollowed := true, recurses := true, named := ["io.EOF", "io.ErrUnexpectedEOF", "bytes.ErrTooLarge"], apart := false, laid := [("io.EOF", laid_io_EOF), ("io.ErrUnexpectedEOF", laid_io_ErrUnexpectedEOF), ("bytes.ErrTooLarge", laid_bytes_ErrTooLarge)] }
def FnLimitsHoldSaid : Prop := fnLimitsHoldRow.holds Tryz.pinned (OpenSpec.ofChange fnLimitsHoldSpec)

/-- ITS FALSE NEIGHBOUR: 'it returns false'. Refute it at one input. -/
def fnLimitsHoldWrong : ChangeSpec := { name := "fnLimitsHold", fn := fun _ => fun
  | [d] => { results := [.lit (.bool false)], args := [d] }
  | _ => none }
def FnLimitsHoldWrongFalsely : Prop := fnLimitsHoldRow.holds Tryz.pinned (OpenSpec.ofChange fnLimitsHoldWrong)

/-- 'laws.FnUnvarint': WHATEVER THE INPUT: true; the input reads as it did. -/
def fnUnvarintSpec : ChangeSpec := { name := "fnUnvarint", fn := fun _ => fun
  | [d1, d2] => { results := [.lit (.bool true)], args := [d1, d2] }
  | _ => none }
def fnUnvarintRow : OpenClaim := { program := "yteadkokfepjgbaagreatdoor", sum := "b9f9895d84cc0448d069088a61a1e9e6a19130abe4420e28ec7cc95ff21cc91e", func := "pub-twineward/laws.FnUnvarint", spec := "fnUnvarint", inPlace := ["math.Float64frombits", "math.Float64bits"], unfollowed := true, recurses := true, named := ["io.EOF", "io.ErrUnexpectedEOF", "bytes.ErrTooLarge"], apart := false, laid := [("io.EOF", laid_io_EOF), ("io.ErrUnexpectedEOF", laid_io_ErrUnexpectedEOF), ("bytes.ErrTooLarge", laid_bytes_ErrTooLarge)] }
def FnUnvarintSaid : Prop := fnUnvarintRow.holds Tryz.pinned (OpenSpec.ofChange fnUnvarintSpec)

/-- ITS FALSE NEIGHBOUR: 'it returns false'. Refute it at one input. -/
def fnUnvarintWrong : ChangeSpec := { name := "fnUnvarint", fn := fun _ => fun
  | [d1, d2] => { results := [.lit (.bool false)], args := [d1, d2] }
  | _ => none }
def FnUnvarintWrongFalsely : Prop := fnUnvarintRow.holds Tryz.pinned (OpenSpec.ofChange fnUnvarintWrong)

/-- 'laws.FnPiecesWhole': WHATEVER THE INPUT: true; the input reads as it did. -/
def fnPiecesWholeSpec : ChangeSpec := { name := "fnPiecesWhole", fn := fun _ => fun
  | [d1, d2, d3] => { results := [.lit (.bool true)], args := [d1, d2, d3] }
  | _ => none }
def fnPiecesWholeRow : OpenClaim := { program := "yteadkokfepjgbaagreatdoor", sum := "b9f9895d84cc0448d069088a61a1e9e6a19130abe4420e28ec7cc95ff21cc91e", func := "pub-twineward/laws.FnPiecesWhole", spec := "fnPiecesWhole", inPlace := ["math.Float64frombits", "math.Float64bits"], unfollowed := true, recurses := true, named := ["io.EOF", "io.ErrUnexpectedEOF", "bytes.ErrTooLarge", "io.ErrShortBuffer"], apart := false, laid := [("io.ErrShortBuffer", laid_io_ErrShortBuffer), ("io.EOF", laid_io_EOF), ("io.ErrUnexpectedEOF", laid_io_ErrUnexpectedEOF), ("bytes.ErrTooLarge", laid_bytes_ErrTooLarge)] }
def FnPiecesWholeSaid : Prop := fnPiecesWholeRow.holds Tryz.pinned (OpenSpec.ofChange fnPiecesWholeSpec)

/-- ITS FALSE NEIGHBOUR: 'it returns false'. Refute it at one input. -/
def fnPiecesWholeWrong : ChangeSpec := { name := "fnPiecesWhole", fn := fun _ => fun
  | [d1, d2, d3] => { results := [.lit (.bool false)], args := [d1, d2, d3] }
  | _ => none }
def FnPiecesWholeWrongFalsely : Prop := fnPiecesWholeRow.holds Tryz.pinned (OpenSpec.ofChange fnPiecesWholeWrong)

/- THE SECOND FORM. 'bulk': how many values and letters a reading holds, each counted each time it is reached (what is shared counts as often as it is met; a slice's spare places count too). A statement '..UptoSaid' is the law's where the arguments, and the package variables that the reading takes, are together of bulk at most 1048576: NARROWER than '..Said'. Prove '..Said' where nothing that the law and all that it calls make is longer than what came in: it says more and counts as full. Else prove '..UptoSaid'. A law counts once. -/
mutual
def uptoBulk {H : Type} : DataW H → Nat
  | .lit (.string bytes) => bytes.length + 1
  | .lit _ => 1
  | .nil => 1
  | .ptr d => uptoBulk d + 1
  | .slice elems spare => uptoBulkAll elems + uptoBulkAll spare + 1
  | .agg parts => uptoBulkAll parts + 1
  | .iface _ d => uptoBulk d + 1
  | .map entries => uptoBulkEntries entries + 1
  | .held _ => 1
def uptoBulkAll {H : Type} : List (DataW H) → Nat
  | [] => 0
  | d :: r => uptoBulk d + uptoBulkAll r
def uptoBulkEntries {H : Type} : List (Lit × DataW H) → Nat
  | [] => 0
  | x :: r => uptoBulkEntry x + uptoBulkEntries r
def uptoBulkEntry {H : Type} : Lit × DataW H → Nat
  | (.string bytes, d) => bytes.length + uptoBulk d + 1
  | (_, d) => uptoBulk d + 1
 end
def uptoSmall : (H : Type) → List (DataW H) → Bool := fun _ ds => decide (uptoBulkAll ds ≤ 1048576)
def OpenSpec.upto (s : _root_.Go.ChangeSpec) : _root_.Go.OpenSpec := { _root_.Go.OpenSpec.ofChange s with cond := some uptoSmall }

/-- 'laws.FnZigzag', WHERE WHAT IT READS IS OF BULK AT MOST 1048576: true; the input reads as it did. -/
def fnZigzagUptoRow : OpenClaim := { program := "yteadkokfepjgbaagreatdoor", sum := "b9f9895d84cc0448d069088a61a1e9e6a19130abe4420e28ec7cc95ff21cc91e", func := "pub-twineward/laws.FnZigzag", spec := "fnZigzag", inPlace := ["math.Float64frombits", "math.Float64bits"], unfollowed := true, recurses := true, named := ["io.EOF", "io.ErrUnexpectedEOF", "bytes.ErrTooLarge"], apart := false, laid := [("io.EOF", laid_io_EOF), ("io.ErrUnexpectedEOF", laid_io_ErrUnexpectedEOF), ("bytes.ErrTooLarge", laid_bytes_ErrTooLarge)], narrowed := true }
def FnZigzagUptoSaid : Prop := fnZigzagUptoRow.holds Tryz.pinned (OpenSpec.upto fnZigzagSpec)

/-- 'laws.FnZigzagBack', WHERE WHAT IT READS IS OF BULK AT MOST 1048576: true; the input reads as it did. -/
def fnZigzagBackUptoRow : OpenClaim := { program := "yteadkokfepjgbaagreatdoor", sum := "b9f9895d84cc0448d069088a61a1e9e6a19130abe4420e28ec7cc95ff21cc91e", func := "pub-twineward/laws.FnZigzagBack", spec := "fnZigzagBack", inPlace := ["math.Float64frombits", "math.Float64bits"], unfollowed := true, recurses := true, named := ["io.EOF", "io.ErrUnexpectedEOF", "bytes.ErrTooLarge"], apart := false, laid := [("io.EOF", laid_io_EOF), ("io.ErrUnexpectedEOF", laid_io_ErrUnexpectedEOF), ("bytes.ErrTooLarge", laid_bytes_ErrTooLarge)], narrowed := true }
def FnZigzagBackUptoSaid : Prop := fnZigzagBackUptoRow.holds Tryz.pinned (OpenSpec.upto fnZigzagBackSpec)

/-- 'laws.FnPrealloc', WHERE WHAT IT READS IS OF BULK AT MOST 1048576: true; the input reads as it did. -/
def fnPreallocUptoRow : OpenClaim := { program := "yteadkokfepjgbaagreatdoor", sum := "b9f9895d84cc0448d069088a61a1e9e6a19130abe4420e28ec7cc95ff21cc91e", func := "pub-twineward/laws.FnPrealloc", spec := "fnPrealloc", inPlace := ["math.Float64frombits", "math.Float64bits"], unfollowed := true, recurses := true, named := ["io.EOF", "io.ErrUnexpectedEOF", "bytes.ErrTooLarge"], apart := false, laid := [("io.EOF", laid_io_EOF), ("io.ErrUnexpectedEOF", laid_io_ErrUnexpectedEOF), ("bytes.ErrTooLarge", laid_bytes_ErrTooLarge)], narrowed := true }
def FnPreallocUptoSaid : Prop := fnPreallocUptoRow.holds Tryz.pinned (OpenSpec.upto fnPreallocSpec)

/-- 'laws.FnFault', WHERE WHAT IT READS IS OF BULK AT MOST 1048576: true; the input reads as it did. -/
def fnFaultUptoRow : OpenClaim := { program := "yteadkokfepjgbaagreatdoor", sum := "b9f9895d84cc0448d069088a61a1e9e6a19130abe4420e28ec7cc95ff21cc91e", func := "pub-twineward/laws.FnFault", spec := "fnFault", inPlace := ["math.Float64frombits", "math.Float64bits"], unfollowed := true, recurses := true, named := ["io.EOF", "io.ErrUnexpectedEOF", "bytes.ErrTooLarge"], apart := false, laid := [("io.EOF", laid_io_EOF), ("io.ErrUnexpectedEOF", laid_io_ErrUnexpectedEOF), ("bytes.ErrTooLarge", laid_bytes_ErrTooLarge)], narrowed := true }
def FnFaultUptoSaid : Prop := fnFaultUptoRow.holds Tryz.pinned (OpenSpec.upto fnFaultSpec)

/-- 'laws.FnUuidText', WHERE WHAT IT READS IS OF BULK AT MOST 1048576: true; the input reads as it did. -/
def fnUuidTextUptoRow : OpenClaim := { program := "yteadkokfepjgbaagreatdoor", sum := "b9f9895d84cc0448d069088a61a1e9e6a19130abe4420e28ec7cc95ff21cc91e", func := "pub-twineward/laws.FnUuidText", spec := "fnUuidText", inPlace := ["math.Float64frombits", "math.Float64bits"], unfollowed := true, recurses := true, named := ["io.EOF", "io.ErrUnexpectedEOF", "bytes.ErrTooLarge"], apart := false, laid := [("io.EOF", laid_io_EOF), ("io.ErrUnexpectedEOF", laid_io_ErrUnexpectedEOF), ("bytes.ErrTooLarge", laid_bytes_ErrTooLarge)], narrowed := true }
def FnUuidTextUptoSaid : Prop := fnUuidTextUptoRow.holds Tryz.pinned (OpenSpec.upto fnUuidTextSpec)

/-- 'laws.FnUnordered', WHERE WHAT IT READS IS OF BULK AT MOST 1048576: true; the input reads as it did. -/
def fnUnorderedUptoRow : OpenClaim := { program := "yteadkokfepjgbaagreatdoor", sum := "b9f9895d84cc0448d069088a61a1e9e6a19130abe4420e28ec7cc95ff21cc91e", func := "pub-twineward/laws.FnUnordered", spec := "fnUnordered", inPlace := ["math.Float64frombits", "math.Float64bits"], unfollowed := true, recurses := true, named := ["io.EOF", "io.ErrUnexpectedEOF", "bytes.ErrTooLarge"], apart := false, laid := [("io.EOF", laid_io_EOF), ("io.ErrUnexpectedEOF", laid_io_ErrUnexpectedEOF), ("bytes.ErrTooLarge", laid_bytes_ErrTooLarge)], narrowed := true }
def FnUnorderedUptoSaid : Prop := fnUnorderedUptoRow.holds Tryz.pinned (OpenSpec.upto fnUnorderedSpec)

/-- 'laws.FnLimitsHold', WHERE WHAT IT READS IS OF BULK AT MOST 1048576: true; the input reads as it did. -/
def fnLimitsHoldUptoRow : OpenClaim := { program := "yteadkokfepjgbaagreatdoor", sum := "b9f9895d84cc0448d069088a61a1e9e6a19130abe4420e28ec7cc95ff21cc91e", func := "pub-twineward/laws.FnLimitsHold", spec := "fnLimitsHold", inPlace := ["math.Float64frombits", "math.Float64bits"], unfollowed := true, recurses := true, named := ["io.EOF", "io.ErrUnexpectedEOF", "bytes.ErrTooLarge"], apart := false, laid := [("io.EOF", laid_io_EOF), ("io.ErrUnexpectedEOF", laid_io_ErrUnexpectedEOF), ("bytes.ErrTooLarge", laid_bytes_ErrTooLarge)], narrowed := true }
def FnLimitsHoldUptoSaid : Prop := fnLimitsHoldUptoRow.holds Tryz.pinned (OpenSpec.upto fnLimitsHoldSpec)

/-- 'laws.FnUnvarint', WHERE WHAT IT READS IS OF BULK AT MOST 1048576: true; the input reads as it did. -/
def fnUnvarintUptoRow : OpenClaim := { program := "yteadkokfepjgbaagreatdoor", sum := "b9f9895d84cc0448d069088a61a1e9e6a19130abe4420e28ec7cc95ff21cc91e", func := "pub-twineward/laws.FnUnvarint", spec := "fnUnvarint", inPlace := ["math.Float64frombits", "math.Float64bits"], unfollowed := true, recurses := true, named := ["io.EOF", "io.ErrUnexpectedEOF", "bytes.ErrTooLarge"], apart := false, laid := [("io.EOF", laid_io_EOF), ("io.ErrUnexpectedEOF", laid_io_ErrUnexpectedEOF), ("bytes.ErrTooLarge", laid_bytes_ErrTooLarge)], narrowed := true }
def FnUnvarintUptoSaid : Prop := fnUnvarintUptoRow.holds Tryz.pinned (OpenSpec.upto fnUnvarintSpec)

/-- 'laws.FnPiecesWhole', WHERE WHAT IT READS IS OF BULK AT MOST 1048576: true; the input reads as it did. -/
def fnPiecesWholeUptoRow : OpenClaim := { program := "yteadkokfepjgbaagreatdoor", sum := "b9f9895d84cc0448d069088a61a1e9e6a19130abe4420e28ec7cc95ff21cc91e", func := "pub-twineward/laws.FnPiecesWhole", spec := "fnPiecesWhole", inPlace := ["math.Float64frombits", "math.Float64bits"], unfollowed := true, recurses := true, named := ["io.EOF", "io.ErrUnexpectedEOF", "bytes.ErrTooLarge", "io.ErrShortBuffer"], apart := false, laid := [("io.ErrShortBuffer", laid_io_ErrShortBuffer), ("io.EOF", laid_io_EOF), ("io.ErrUnexpectedEOF", laid_io_ErrUnexpectedEOF), ("bytes.ErrTooLarge", laid_bytes_ErrTooLarge)], narrowed := true }
def FnPiecesWholeUptoSaid : Prop := fnPiecesWholeUptoRow.holds Tryz.pinned (OpenSpec.upto fnPiecesWholeSpec)

end Rows
end Go.Proofs.YteadkokfepjgbaaGreatDoor
