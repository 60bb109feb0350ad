/-
  NARROWER THAN 'FOR EVERY INPUT', by the rows' own cells (each row's printed sentence says how): FnDepth: loops, laid · FnSkipDeep: loops, laid · FnThereBack: loops, laid · FnRow: loops, laid · FnSteps: loops, laid · FnCompactFields: laid · FnFaultBack: laid · FnClientTold: laid · FnPiecesWhole: laid.
  DERIVED. THE GIVEN ROWS OF THIS SEAT. 9 by the template 'for every input the law returns true; each argument reads behind the call as it read before'; 0 by the template 'total and deterministic' (their statements: YtmjcnomgpikncaaGreatDoorTotals.lean).
  GIVEN WITH THE SEED: the statements are not yours to turn. If you find one false, say at which input.
  Laid BY PROGRAM, IN A SANDBOX (cutbox-rows.mjs): the forced cells as the released guide's own fill.sh prints them over the translation 25065524e8ed9a59… (all of the seat's roots in one cut). By AI agents, Wed Nov 11 2026. No macro, syntax, notation, axiom, sorry.
-/
import Derived.Test.YtmjcnomgpikncaaGreatDoorChecked
import GoSem.Claim
import GoSem.ClaimJoined
import GoSem.ClaimMapViews
import Derived.JoinedTies
import Derived.KernelRfl
namespace Go.Proofs.YtmjcnomgpikncaaGreatDoor
/- THE CELL 'sum', in the pinned program and in every row, IS THE sha256 OF THE DUMP (.gsa) THAT YtmjcnomgpikncaaGreatDoorProg.lean LOADS. Nothing in Lean hashes anything: it is a label: what it is worth is what the hold of that sum in a sandbox is worth. -/
noncomputable def Tryz.pinned : Pinned := { name := "ytmjcnomgpikncaagreatdoor", sum := "25065524e8ed9a591fdf753a09e4e56eaf7f71e19dd5f843a488047c8009efd2", checked := Tryz.checked }
namespace Rows
def none {H : Type} : Left H := { results := [], args := [] }

/- WHAT THE LISTED PACKAGE-LEVEL VARIABLES READ AS WHEN THE CALL BEGINS. Each datum BY PROGRAM (the guide's laid-datum.mjs) off the statement by which the dump's own 'gosem.cut.vars' lays the variable. In a bare row this is a premise. The card (YtmjcnomgpikncaaGreatDoorCards.lean) ties it to the program's text. -/
def laid_io_EOF {H : Type} : DataW H := .iface "*errors.errorString" (.ptr (.agg [.lit (.string [69, 79, 70])]))
def laid_io_ErrUnexpectedEOF {H : Type} : DataW H := .iface "*errors.errorString" (.ptr (.agg [.lit (.string [117, 110, 101, 120, 112, 101, 99, 116, 101, 100, 32, 69, 79, 70])]))
def laid_bytes_ErrTooLarge {H : Type} : DataW H := .iface "*errors.errorString" (.ptr (.agg [.lit (.string [98, 121, 116, 101, 115, 46, 66, 117, 102, 102, 101, 114, 58, 32, 116, 111, 111, 32, 108, 97, 114, 103, 101])]))
def laid_io_ErrShortBuffer {H : Type} : DataW H := .iface "*errors.errorString" (.ptr (.agg [.lit (.string [115, 104, 111, 114, 116, 32, 98, 117, 102, 102, 101, 114])]))

/-- 'laws.FnDepth': WHATEVER THE INPUT: true; the input reads as it did. -/
def fnDepthSpec : ChangeSpec := { name := "fnDepth", fn := fun _ => fun
  | [d1, d2, d3] => { results := [.lit (.bool true)], args := [d1, d2, d3] }
  | _ => none }
def fnDepthRow : OpenClaim := { program := "ytmjcnomgpikncaagreatdoor", sum := "25065524e8ed9a591fdf753a09e4e56eaf7f71e19dd5f843a488047c8009efd2", func := "pub-twineward/laws.FnDepth", spec := "fnDepth", inPlace := ["math.Float64frombits", "math.Float64bits"], unfollowed := true, recurses := true, named := ["io.EOF", "io.ErrUnexpectedEOF", "bytes.ErrTooLarge"], loops := true, apart := false, laid := [("io.EOF", laid_io_EOF), ("io.ErrUnexpectedEOF", laid_io_ErrUnexpectedEOF), ("bytes.ErrTooLarge", laid_bytes_ErrTooLarge)] }
def FnDepthSaid : Prop := fnDepthRow.holds Tryz.pinned (OpenSpec.ofChange fnDepthSpec)

/-- ITS FALSE NEIGHBOUR: 'it returns false'. Refute it at one input. -/
def fnDepthWrong : ChangeSpec := { name := "fnDepth", fn := fun _ => fun
  | [d1, d2, d3] => { results := [.lit (.bool false)], args := [d1, d2, d3] }
  | _ => none }
def FnDepthWrongFalsely : Prop := fnDepthRow.holds Tryz.pinned (OpenSpec.ofChange fnDepthWrong)

/-- 'laws.FnSkipDeep': WHATEVER THE INPUT: true; the input reads as it did. -/
def fnSkipDeepSpec : ChangeSpec := { name := "fnSkipDeep", fn := fun _ => fun
  | [d1, d2, d3] => { results := [.lit (.bool true)], args := [d1, d2, d3] }
  | _ => none }
def fnSkipDeepRow : OpenClaim := { program := "ytmjcnomgpikncaagreatdoor", sum := "25065524e8ed9a591fdf753a09e4e56eaf7f71e19dd5f843a488047c8009efd2", func := "pub-twineward/laws.FnSkipDeep", spec := "fnSkipDeep", inPlace := ["math.Float64frombits", "math.Float64bits"], unfollowed := true, recurses := true, named := ["io.EOF", "io.ErrUnexpectedEOF", "bytes.ErrTooLarge"], loops := true, apart := false, laid := [("io.EOF", laid_io_EOF), ("io.ErrUnexpectedEOF", laid_io_ErrUnexpectedEOF), ("bytes.ErrTooLarge", laid_bytes_ErrTooLarge)] }
def FnSkipDeepSaid : Prop := fnSkipDeepRow.holds Tryz.pinned (OpenSpec.ofChange fnSkipDeepSpec)

/-- ITS FALSE NEIGHBOUR: 'it returns false'. Refute it at one input. -/
def fnSkipDeepWrong : ChangeSpec := { name := "fnSkipDeep", fn := fun _ => fun
  | [d1, d2, d3] => { results := [.lit (.bool false)], args := [d1, d2, d3] }
  | _ => none }
def FnSkipDeepWrongFalsely : Prop := fnSkipDeepRow.holds Tryz.pinned (OpenSpec.ofChange fnSkipDeepWrong)

/-- 'laws.FnThereBack': WHATEVER THE INPUT: true; the input reads as it did. -/
def fnThereBackSpec : ChangeSpec := { name := "fnThereBack", fn := fun _ => fun
  | [d1, d2, d3] => { results := [.lit (.bool true)], args := [d1, d2, d3] }
  | _ => none }
def fnThereBackRow : OpenClaim := { program := "ytmjcnomgpikncaagreatdoor", sum := "25065524e8ed9a591fdf753a09e4e56eaf7f71e19dd5f843a488047c8009efd2", func := "pub-twineward/laws.FnThereBack", spec := "fnThereBack", inPlace := ["math.Float64frombits", "math.Float64bits"], unfollowed := true, recurses := true, named := ["io.EOF", "io.ErrUnexpectedEOF", "bytes.ErrTooLarge"], loops := true, apart := false, laid := [("io.EOF", laid_io_EOF), ("io.ErrUnexpectedEOF", laid_io_ErrUnexpectedEOF), ("bytes.ErrTooLarge", laid_bytes_ErrTooLarge)] }
def FnThereBackSaid : Prop := fnThereBackRow.holds Tryz.pinned (OpenSpec.ofChange fnThereBackSpec)

/-- ITS FALSE NEIGHBOUR: 'it returns false'. Refute it at one input. -/
def fnThereBackWrong : ChangeSpec := { name := "fnThereBack", fn := fun _ => fun
  | [d1, d2, d3] => { results := [.lit (.bool false)], args := [d1, d2, d3] }
  | _ => none }
def FnThereBackWrongFalsely : Prop := fnThereBackRow.holds Tryz.pinned (OpenSpec.ofChange fnThereBackWrong)

/-- 'laws.FnRow': WHATEVER THE INPUT: true; the input reads as it did. -/
def fnRowSpec : ChangeSpec := { name := "fnRow", fn := fun _ => fun
  | [d1, d2, d3] => { results := [.lit (.bool true)], args := [d1, d2, d3] }
  | _ => none }
def fnRowRow : OpenClaim := { program := "ytmjcnomgpikncaagreatdoor", sum := "25065524e8ed9a591fdf753a09e4e56eaf7f71e19dd5f843a488047c8009efd2", func := "pub-twineward/laws.FnRow", spec := "fnRow", inPlace := ["math.Float64frombits", "math.Float64bits"], unfollowed := true, recurses := true, named := ["io.EOF", "io.ErrUnexpectedEOF", "bytes.ErrTooLarge"], loops := true, apart := false, laid := [("io.EOF", laid_io_EOF), ("io.ErrUnexpectedEOF", laid_io_ErrUnexpectedEOF), ("bytes.ErrTooLarge", laid_bytes_ErrTooLarge)] }
def FnRowSaid : Prop := fnRowRow.holds Tryz.pinned (OpenSpec.ofChange fnRowSpec)

/-- ITS FALSE NEIGHBOUR: 'it returns false'. Refute it at one input. -/
def fnRowWrong : ChangeSpec := { name := "fnRow", fn := fun _ => fun
  | [d1, d2, d3] => { results := [.lit (.bool false)], args := [d1, d2, d3] }
  | _ => none }
def FnRowWrongFalsely : Prop := fnRowRow.holds Tryz.pinned (OpenSpec.ofChange fnRowWrong)

/-- 'laws.FnSteps': WHATEVER THE INPUT: true; the input reads as it did. -/
def fnStepsSpec : ChangeSpec := { name := "fnSteps", fn := fun _ => fun
  | [d1, d2, d3] => { results := [.lit (.bool true)], args := [d1, d2, d3] }
  | _ => none }
def fnStepsRow : OpenClaim := { program := "ytmjcnomgpikncaagreatdoor", sum := "25065524e8ed9a591fdf753a09e4e56eaf7f71e19dd5f843a488047c8009efd2", func := "pub-twineward/laws.FnSteps", spec := "fnSteps", inPlace := ["math.Float64frombits", "math.Float64bits"], unfollowed := true, recurses := true, named := ["io.EOF", "io.ErrUnexpectedEOF", "bytes.ErrTooLarge"], loops := true, apart := false, laid := [("io.EOF", laid_io_EOF), ("io.ErrUnexpectedEOF", laid_io_ErrUnexpectedEOF), ("bytes.ErrTooLarge", laid_bytes_ErrTooLarge)] }
def FnStepsSaid : Prop := fnStepsRow.holds Tryz.pinned (OpenSpec.ofChange fnStepsSpec)

/-- ITS FALSE NEIGHBOUR: 'it returns false'. Refute it at one input. -/
def fnStepsWrong : ChangeSpec := { name := "fnSteps", fn := fun _ => fun
  | [d1, d2, d3] => { results := [.lit (.bool false)], args := [d1, d2, d3] }
  | _ => none }
def FnStepsWrongFalsely : Prop := fnStepsRow.holds Tryz.pinned (OpenSpec.ofChange fnStepsWrong)

/-- 'laws.FnCompactFields': WHATEVER THE INPUT: true; the input reads as it did. -/
def fnCompactFieldsSpec : ChangeSpec := { name := "fnCompactFields", fn := fun _ => fun
  | [d1, d2, d3] => { results := [.lit (.bool true)], args := [d1, d2, d3] }
  | _ => none }
def fnCompactFieldsRow : OpenClaim := { program := "ytmjcnomgpikncaagreatdoor", sum := "25065524e8ed9a591fdf753a09e4e56eaf7f71e19dd5f843a488047c8009efd2", func := "pub-twineward/laws.FnCompactFields", spec := "fnCompactFields", inPlace := ["math.Float64frombits", "math.Float64bits"], unfollowed := true, recurses := true, named := ["io.EOF", "io.ErrUnexpectedEOF", "bytes.ErrTooLarge"], apart := false, laid := [("io.EOF", laid_io_EOF), ("io.ErrUnexpectedEOF", laid_io_ErrUnexpectedEOF), ("bytes.ErrTooLarge", laid_bytes_ErrTooLarge)] }
def FnCompactFieldsSaid : Prop := fnCompactFieldsRow.holds Tryz.pinned (OpenSpec.ofChange fnCompactFieldsSpec)

/-- ITS FALSE NEIGHBOUR: 'it returns false'. Refute it at one input. -/
def fnCompactFieldsWrong : ChangeSpec := { name := "fnCompactFields", fn := fun _ => fun
  | [d1, d2, d3] => { results := [.lit (.bool false)], args := [d1, d2, d3] }
  | _ => none }
def FnCompactFieldsWrongFalsely : Prop := fnCompactFieldsRow.holds Tryz.pinned (OpenSpec.ofChange fnCompactFieldsWrong)

/-- 'laws.FnFaultBack': WHATEVER THE INPUT: true; the input reads as it did. -/
def fnFaultBackSpec : ChangeSpec := { name := "fnFaultBack", fn := fun _ => fun
  | [d1, d2, d3, d4] => { results := [.lit (.bool true)], args := [d1, d2, d3, d4] }
  | _ => none }
def fnFaultBackRow : OpenClaim := { program := "ytmjcnomgpikncaagreatdoor", sum := "25065524e8ed9a591fdf753a09e4e56eaf7f71e19dd5f843a488047c8009efd2", func := "pub-twineward/laws.FnFaultBack", spec := "fnFaultBack", inPlace := ["math.Float64frombits", "math.Float64bits"], unfollowed := true, recurses := true, named := ["io.EOF", "io.ErrUnexpectedEOF", "bytes.ErrTooLarge"], apart := false, laid := [("io.EOF", laid_io_EOF), ("io.ErrUnexpectedEOF", laid_io_ErrUnexpectedEOF), ("bytes.ErrTooLarge", laid_bytes_ErrTooLarge)] }
def FnFaultBackSaid : Prop := fnFaultBackRow.holds Tryz.pinned (OpenSpec.ofChange fnFaultBackSpec)

/-- ITS FALSE NEIGHBOUR: 'it returns false'. Refute it at one input. -/
def fnFaultBackWrong : ChangeSpec := { name := "fnFaultBack", fn := fun _ => fun
  | [d1, d2, d3, d4] => { results := [.lit (.bool false)], args := [d1, d2, d3, d4] }
  | _ => none }
def FnFaultBackWrongFalsely : Prop := fnFaultBackRow.holds Tryz.pinned (OpenSpec.ofChange fnFaultBackWrong)

/-- 'laws.FnClientTold': WHATEVER THE INPUT: true; the input reads as it did. -/
def fnClientToldSpec : ChangeSpec := { name := "fnClientTold", fn := fun _ => fun
  | [d1, d2, d3, d4, d5, d6] => { results := [.lit (.bool true)], args := [d1, d2, d3, d4, d5, d6] }
  | _ => none }
def fnClientToldRow : OpenClaim := { program := "ytmjcnomgpikncaagreatdoor", sum := "25065524e8ed9a591fdf753a09e4e56eaf7f71e19dd5f843a488047c8009efd2", func := "pub-twineward/laws.FnClientTold", spec := "fnClientTold", inPlace := ["math.Float64frombits", "math.Float64bits"], unfollowed := true, recurses := true, named := ["io.EOF", "io.ErrUnexpectedEOF", "bytes.ErrTooLarge"], apart := false, laid := [("io.EOF", laid_io_EOF), ("io.ErrUnexpectedEOF", laid_io_ErrUnexpectedEOF), ("bytes.ErrTooLarge", laid_bytes_ErrTooLarge)] }
def FnClientToldSaid : Prop := fnClientToldRow.holds Tryz.pinned (OpenSpec.ofChange fnClientToldSpec)

/-- ITS FALSE NEIGHBOUR: 'it returns false'. Refute it at one input. -/
def fnClientToldWrong : ChangeSpec := { name := "fnClientTold", fn := fun _ => fun
  | [d1, d2, d3, d4, d5, d6] => { results := [.lit (.bool false)], args := [d1, d2, d3, d4, d5, d6] }
  | _ => none }
def FnClientToldWrongFalsely : Prop := fnClientToldRow.holds Tryz.pinned (OpenSpec.ofChange fnClientToldWrong)

/-- 'laws.FnPiecesWhole': WHATEVER THE INPUT: true; the input reads as it did. -/
def fnPiecesWholeSpec : ChangeSpec := { name := "fnPiecesWhole", fn := fun _ => fun
  | [d1, d2, d3] => { results := [.lit (.bool true)], args := [d1, d2, d3] }
  | _ => none }
def fnPiecesWholeRow : OpenClaim := { program := "ytmjcnomgpikncaagreatdoor", sum := "25065524e8ed9a591fdf753a09e4e56eaf7f71e19dd5f843a488047c8009efd2", func := "pub-twineward/laws.FnPiecesWhole", spec := "fnPiecesWhole", inPlace := ["math.Float64frombits", "math.Float64bits"], unfollowed := true, recurses := true, named := ["io.EOF", "io.ErrUnexpectedEOF", "bytes.ErrTooLarge", "io.ErrShortBuffer"], apart := false, laid := [("io.ErrShortBuffer", laid_io_ErrShortBuffer), ("io.EOF", laid_io_EOF), ("io.ErrUnexpectedEOF", laid_io_ErrUnexpectedEOF), ("bytes.ErrTooLarge", laid_bytes_ErrTooLarge)] }
def FnPiecesWholeSaid : Prop := fnPiecesWholeRow.holds Tryz.pinned (OpenSpec.ofChange fnPiecesWholeSpec)

/-- ITS FALSE NEIGHBOUR: 'it returns false'. Refute it at one input. -/
def fnPiecesWholeWrong : ChangeSpec := { name := "fnPiecesWhole", fn := fun _ => fun
  | [d1, d2, d3] => { results := [.lit (.bool false)], args := [d1, d2, d3] }
  | _ => none }
def FnPiecesWholeWrongFalsely : Prop := fnPiecesWholeRow.holds Tryz.pinned (OpenSpec.ofChange fnPiecesWholeWrong)

/- THE SECOND FORM. 'bulk': how many values and letters a reading holds, each counted each time it is reached (what is shared counts as often as it is met; a slice's spare places count too). A statement '..UptoSaid' is the law's where the arguments, and the package variables that the reading takes, are together of bulk at most 1048576: NARROWER than '..Said'. Prove '..Said' where nothing that the law and all that it calls make is longer than what came in: it says more and counts as full. Else prove '..UptoSaid'. A law counts once. -/
mutual
def uptoBulk {H : Type} : DataW H → Nat
  | .lit (.string bytes) => bytes.length + 1
  | .lit _ => 1
  | .nil => 1
  | .ptr d => uptoBulk d + 1
  | .slice elems spare => uptoBulkAll elems + uptoBulkAll spare + 1
  | .agg parts => uptoBulkAll parts + 1
  | .iface _ d => uptoBulk d + 1
  | .map entries => uptoBulkEntries entries + 1
  | .held _ => 1
def uptoBulkAll {H : Type} : List (DataW H) → Nat
  | [] => 0
  | d :: r => uptoBulk d + uptoBulkAll r
def uptoBulkEntries {H : Type} : List (Lit × DataW H) → Nat
  | [] => 0
  | x :: r => uptoBulkEntry x + uptoBulkEntries r
def uptoBulkEntry {H : Type} : Lit × DataW H → Nat
  | (.string bytes, d) => bytes.length + uptoBulk d + 1
  | (_, d) => uptoBulk d + 1
 end
def uptoSmall : (H : Type) → List (DataW H) → Bool := fun _ ds => decide (uptoBulkAll ds ≤ 1048576)
def OpenSpec.upto (s : _root_.Go.ChangeSpec) : _root_.Go.OpenSpec := { _root_.Go.OpenSpec.ofChange s with cond := some uptoSmall }

/-- 'laws.FnDepth', WHERE WHAT IT READS IS OF BULK AT MOST 1048576: true; the input reads as it did. -/
def fnDepthUptoRow : OpenClaim := { program := "ytmjcnomgpikncaagreatdoor", sum := "25065524e8ed9a591fdf753a09e4e56eaf7f71e19dd5f843a488047c8009efd2", func := "pub-twineward/laws.FnDepth", spec := "fnDepth", inPlace := ["math.Float64frombits", "math.Float64bits"], unfollowed := true, recurses := true, named := ["io.EOF", "io.ErrUnexpectedEOF", "bytes.ErrTooLarge"], loops := true, apart := false, laid := [("io.EOF", laid_io_EOF), ("io.ErrUnexpectedEOF", laid_io_ErrUnexpectedEOF), ("bytes.ErrTooLarge", laid_bytes_ErrTooLarge)], narrowed := true }
def FnDepthUptoSaid : Prop := fnDepthUptoRow.holds Tryz.pinned (OpenSpec.upto fnDepthSpec)

/-- 'laws.FnSkipDeep', WHERE WHAT IT READS IS OF BULK AT MOST 1048576: true; the input reads as it did. -/
def fnSkipDeepUptoRow : OpenClaim := { program := "ytmjcnomgpikncaagreatdoor", sum := "25065524e8ed9a591fdf753a09e4e56eaf7f71e19dd5f843a488047c8009efd2", func := "pub-twineward/laws.FnSkipDeep", spec := "fnSkipDeep", inPlace := ["math.Float64frombits", "math.Float64bits"], unfollowed := true, recurses := true, named := ["io.EOF", "io.ErrUnexpectedEOF", "bytes.ErrTooLarge"], loops := true, apart := false, laid := [("io.EOF", laid_io_EOF), ("io.ErrUnexpectedEOF", laid_io_ErrUnexpectedEOF), ("bytes.ErrTooLarge", laid_bytes_ErrTooLarge)], narrowed := true }
def FnSkipDeepUptoSaid : Prop := fnSkipDeepUptoRow.holds Tryz.pinned (OpenSpec.upto fnSkipDeepSpec)

/-- 'laws.FnThereBack', WHERE WHAT IT READS IS OF BULK AT MOST 1048576: true; the input reads as it did. -/
def fnThereBackUptoRow : OpenClaim := { program := "ytmjcnomgpikncaagreatdoor", sum := "25065524e8ed9a591fdf753a09e4e56eaf7f71e19dd5f843a488047c8009efd2", func := "pub-twineward/laws.FnThereBack", spec := "fnThereBack", inPlace := ["math.Float64frombits", "math.Float64bits"], unfollowed := true, recurses := true, named := ["io.EOF", "io.ErrUnexpectedEOF", "bytes.ErrTooLarge"], loops := true, apart := false, laid := [("io.EOF", laid_io_EOF), ("io.ErrUnexpectedEOF", laid_io_ErrUnexpectedEOF), ("bytes.ErrTooLarge", laid_bytes_ErrTooLarge)], narrowed := true }
def FnThereBackUptoSaid : Prop := fnThereBackUptoRow.holds Tryz.pinned (OpenSpec.upto fnThereBackSpec)

/-- 'laws.FnRow', WHERE WHAT IT READS IS OF BULK AT MOST 1048576: true; the input reads as it did. -/
def fnRowUptoRow : OpenClaim := { program := "ytmjcnomgpikncaagreatdoor", sum := "25065524e8ed9a591fdf753a09e4e56eaf7f71e19dd5f843a488047c8009efd2", func := "pub-twineward/laws.FnRow", spec := "fnRow", inPlace := ["math.Float64frombits", "math.Float64bits"], unfollowed := true, recurses := true, named := ["io.EOF", "io.ErrUnexpectedEOF", "bytes.ErrTooLarge"], loops := true, apart := false, laid := [("io.EOF", laid_io_EOF), ("io.ErrUnexpectedEOF", laid_io_ErrUnexpectedEOF), ("bytes.ErrTooLarge", laid_bytes_ErrTooLarge)], narrowed := true }
def FnRowUptoSaid : Prop := fnRowUptoRow.holds Tryz.pinned (OpenSpec.upto fnRowSpec)

/-- 'laws.FnSteps', WHERE WHAT IT READS IS OF BULK AT MOST 1048576: true; the input reads as it did. -/
def fnStepsUptoRow : OpenClaim := { program := "ytmjcnomgpikncaagreatdoor", sum := "25065524e8ed9a591fdf753a09e4e56eaf7f71e19dd5f843a488047c8009efd2", func := "pub-twineward/laws.FnSteps", spec := "fnSteps", inPlace := ["math.Float64frombits", "math.Float64bits"], unfollowed := true, recurses := true, named := ["io.EOF", "io.ErrUnexpectedEOF", "bytes.ErrTooLarge"], loops := true, apart := false, laid := [("io.EOF", laid_io_EOF), ("io.ErrUnexpectedEOF", laid_io_ErrUnexpectedEOF), ("bytes.ErrTooLarge", laid_bytes_ErrTooLarge)], narrowed := true }
def FnStepsUptoSaid : Prop := fnStepsUptoRow.holds Tryz.pinned (OpenSpec.upto fnStepsSpec)

/-- 'laws.FnCompactFields', WHERE WHAT IT READS IS OF BULK AT MOST 1048576: true; the input reads as it did. -/
def fnCompactFieldsUptoRow : OpenClaim := { program := "ytmjcnomgpikncaagreatdoor", sum := "25065524e8ed9a591fdf753a09e4e56eaf7f71e19dd5f843a488047c8009efd2", func := "pub-twineward/laws.FnCompactFields", spec := "fnCompactFields", inPlace := ["math.Float64frombits", "math.Float64bits"], unfollowed := true, recurses := true, named := ["io.EOF", "io.ErrUnexpectedEOF", "bytes.ErrTooLarge"], apart := false, laid := [("io.EOF", laid_io_EOF), ("io.ErrUnexpectedEOF", laid_io_ErrUnexpectedEOF), ("bytes.ErrTooLarge", laid_bytes_ErrTooLarge)], narrowed := true }
def FnCompactFieldsUptoSaid : Prop := fnCompactFieldsUptoRow.holds Tryz.pinned (OpenSpec.upto fnCompactFieldsSpec)

/-- 'laws.FnFaultBack', WHERE WHAT IT READS IS OF BULK AT MOST 1048576: true; the input reads as it did. -/
def fnFaultBackUptoRow : OpenClaim := { program := "ytmjcnomgpikncaagreatdoor", sum := "25065524e8ed9a591fdf753a09e4e56eaf7f71e19dd5f843a488047c8009efd2", func := "pub-twineward/laws.FnFaultBack", spec := "fnFaultBack", inPlace := ["math.Float64frombits", "math.Float64bits"], unfollowed := true, recurses := true, named := ["io.EOF", "io.ErrUnexpectedEOF", "bytes.ErrTooLarge"], apart := false, laid := [("io.EOF", laid_io_EOF), ("io.ErrUnexpectedEOF", laid_io_ErrUnexpectedEOF), ("bytes.ErrTooLarge", laid_bytes_ErrTooLarge)], narrowed := true }
def FnFaultBackUptoSaid : Prop := fnFaultBackUptoRow.holds Tryz.pinned (OpenSpec.upto fnFaultBackSpec)

/-- 'laws.FnClientTold', WHERE WHAT IT READS IS OF BULK AT MOST 1048576: true; the input reads as it did. -/
def fnClientToldUptoRow : OpenClaim := { program := "ytmjcnomgpikncaagreatdoor", sum := "25065524e8ed9a591fdf753a09e4e56eaf7f71e19dd5f843a488047c8009efd2", func := "pub-twineward/laws.FnClientTold", spec := "fnClientTold", inPlace := ["math.Float64frombits", "math.Float64bits"], unfollowed := true, recurses := true, named := ["io.EOF", "io.ErrUnexpectedEOF", "bytes.ErrTooLarge"], apart := false, laid := [("io.EOF", laid_io_EOF), ("io.ErrUnexpectedEOF", laid_io_ErrUnexpectedEOF), ("bytes.ErrTooLarge", laid_bytes_ErrTooLarge)], narrowed := true }
def FnClientToldUptoSaid : Prop := fnClientToldUptoRow.holds Tryz.pinned (OpenSpec.upto fnClientToldSpec)

/-- 'laws.FnPiecesWhole', WHERE WHAT IT READS IS OF BULK AT MOST 1048576: true; the input reads as it did. -/
def fnPiecesWholeUptoRow : OpenClaim := { program := "ytmjcnomgpikncaagreatdoor", sum := "25065524e8ed9a591fdf753a09e4e56eaf7f71e19dd5f843a488047c8009efd2", func := "pub-twineward/laws.FnPiecesWhole", spec := "fnPiecesWhole", inPlace := ["math.Float64frombits", "math.Float64bits"], unfollowed := true, recurses := true, named := ["io.EOF", "io.ErrUnexpectedEOF", "bytes.ErrTooLarge", "io.ErrShortBuffer"], apart := false, laid := [("io.ErrShortBuffer", laid_io_ErrShortBuffer), ("io.EOF", laid_io_EOF), ("io.ErrUnexpectedEOF", laid_io_ErrUnexpectedEOF), ("bytes.ErrTooLarge", laid_bytes_ErrTooLarge)], narrowed := true }
def FnPiecesWholeUptoSaid : Prop := fnPiecesWholeUptoRow.holds Tryz.pinned (OpenSpec.upto fnPiecesWholeSpec)

end Rows
end Go.Proofs.YtmjcnomgpikncaaGreatDoor
