/-
  NARROWER THAN 'FOR EVERY INPUT', by the rows' own cells (each row's printed sentence says how): FnNegative: laid · FnLimitTexts: laid · FnThereBack: loops, laid · FnRow: loops, laid · FnDepth: loops, laid · FnSteps: loops, laid · FnSkipDeep: loops, laid · FnCompactFields: laid · FnName: laid.
  DERIVED. THE GIVEN ROWS OF THIS SEAT. 9 by the template 'for every input the law returns true; each argument reads behind the call as it read before'; 0 by the template 'total and deterministic' (their statements: YtelocgemofghaaaGreatDoorTotals.lean).
  GIVEN WITH THE SEED: the statements are not yours to turn. If you find one false, say at which input.
  Laid BY PROGRAM, IN A SANDBOX (cutbox-rows.mjs): the forced cells as the released guide's own fill.sh prints them over the translation 2c09237fce6dc9a6… (all of the seat's roots in one cut). By AI agents, Wed Nov 11 2026. No macro, syntax, notation, axiom, sorry.
-/
import Derived.Test.YtelocgemofghaaaGreatDoorChecked
import GoSem.Claim
import GoSem.ClaimJoined
import GoSem.ClaimMapViews
import Derived.JoinedTies
import Derived.KernelRfl
namespace Go.Proofs.YtelocgemofghaaaGreatDoor
/- THE CELL 'sum', in the pinned program and in every row, IS THE sha256 OF THE DUMP (.gsa) THAT YtelocgemofghaaaGreatDoorProg.lean LOADS. Nothing in Lean hashes anything: it is a label: what it is worth is what the hold of that sum in a sandbox is worth. -/
noncomputable def Tryz.pinned : Pinned := { name := "ytelocgemofghaaagreatdoor", sum := "2c09237fce6dc9a61c89658ca50eb822f37f2ca24d7e25ea1c7d0b0b69e10cad", checked := Tryz.checked }
namespace Rows
def none {H : Type} : Left H := { results := [], args := [] }

/- WHAT THE LISTED PACKAGE-LEVEL VARIABLES READ AS WHEN THE CALL BEGINS. Each datum BY PROGRAM (the guide's laid-datum.mjs) off the statement by which the dump's own 'gosem.cut.vars' lays the variable. In a bare row this is a premise. The card (YtelocgemofghaaaGreatDoorCards.lean) ties it to the program's text. -/
def laid_io_EOF {H : Type} : DataW H := .iface "*errors.errorString" (.ptr (.agg [.lit (.string [69, 79, 70])]))
def laid_io_ErrUnexpectedEOF {H : Type} : DataW H := .iface "*errors.errorString" (.ptr (.agg [.lit (.string [117, 110, 101, 120, 112, 101, 99, 116, 101, 100, 32, 69, 79, 70])]))
def laid_bytes_ErrTooLarge {H : Type} : DataW H := .iface "*errors.errorString" (.ptr (.agg [.lit (.string [98, 121, 116, 101, 115, 46, 66, 117, 102, 102, 101, 114, 58, 32, 116, 111, 111, 32, 108, 97, 114, 103, 101])]))

/-- 'laws.FnNegative': WHATEVER THE INPUT: true; the input reads as it did. -/
def fnNegativeSpec : ChangeSpec := { name := "fnNegative", fn := fun _ => fun
  | [d1, d2, d3] => { results := [.lit (.bool true)], args := [d1, d2, d3] }
  | _ => none }
def fnNegativeRow : OpenClaim := { program := "ytelocgemofghaaagreatdoor", sum := "2c09237fce6dc9a61c89658ca50eb822f37f2ca24d7e25ea1c7d0b0b69e10cad", func := "pub-twineward/laws.FnNegative", spec := "fnNegative", inPlace := ["math.Float64frombits", "math.Float64bits"], unfollowed := true, recurses := true, named := ["io.EOF", "io.ErrUnexpectedEOF", "bytes.ErrTooLarge"], apart := false, laid := [("io.EOF", laid_io_EOF), ("io.ErrUnexpectedEOF", laid_io_ErrUnexpectedEOF), ("bytes.ErrTooLarge", laid_bytes_ErrTooLarge)] }
def FnNegativeSaid : Prop := fnNegativeRow.holds Tryz.pinned (OpenSpec.ofChange fnNegativeSpec)

/-- ITS FALSE NEIGHBOUR: 'it returns false'. Refute it at one input. -/
def fnNegativeWrong : ChangeSpec := { name := "fnNegative", fn := fun _ => fun
  | [d1, d2, d3] => { results := [.lit (.bool false)], args := [d1, d2, d3] }
  | _ => none }
def FnNegativeWrongFalsely : Prop := fnNegativeRow.holds Tryz.pinned (OpenSpec.ofChange fnNegativeWrong)

/-- 'laws.FnLimitTexts': WHATEVER THE INPUT: true; the input reads as it did. -/
def fnLimitTextsSpec : ChangeSpec := { name := "fnLimitTexts", fn := fun _ => fun
  | [d1, d2, d3] => { results := [.lit (.bool true)], args := [d1, d2, d3] }
  | _ => none }
def fnLimitTextsRow : OpenClaim := { program := "ytelocgemofghaaagreatdoor", sum := "2c09237fce6dc9a61c89658ca50eb822f37f2ca24d7e25ea1c7d0b0b69e10cad", func := "pub-twineward/laws.FnLimitTexts", spec := "fnLimitTexts", inPlace := ["math.Float64frombits", "math.Float64bits"], unfollowed := true, recurses := true, named := ["io.EOF", "io.ErrUnexpectedEOF", "bytes.ErrTooLarge"], apart := false, laid := [("io.EOF", laid_io_EOF), ("io.ErrUnexpectedEOF", laid_io_ErrUnexpectedEOF), ("bytes.ErrTooLarge", laid_bytes_ErrTooLarge)] }
def FnLimitTextsSaid : Prop := fnLimitTextsRow.holds Tryz.pinned (OpenSpec.ofChange fnLimitTextsSpec)

/-- ITS FALSE NEIGHBOUR: 'it returns false'. Refute it at one input. -/
def fnLimitTextsWrong : ChangeSpec := { name := "fnLimitTexts", fn := fun _ => fun
  | [d1, d2, d3] => { results := [.lit (.bool false)], args := [d1, d2, d3] }
  | _ => none }
def FnLimitTextsWrongFalsely : Prop := fnLimitTextsRow.holds Tryz.pinned (OpenSpec.ofChange fnLimitTextsWrong)

/-- 'laws.FnThereBack': WHATEVER THE INPUT: true; the input reads as it did. -/
def fnThereBackSpec : ChangeSpec := { name := "fnThereBack", fn := fun _ => fun
  | [d1, d2, d3] => { results := [.lit (.bool true)], args := [d1, d2, d3] }
  | _ => none }
def fnThereBackRow : OpenClaim := { program := "ytelocgemofghaaagreatdoor", sum := "2c09237fce6dc9a61c89658ca50eb822f37f2ca24d7e25ea1c7d0b0b69e10cad", func := "pub-twineward/laws.FnThereBack", spec := "fnThereBack", inPlace := ["math.Float64frombits", "math.Float64bits"], unfollowed := true, recurses := true, named := ["io.EOF", "io.ErrUnexpectedEOF", "bytes.ErrTooLarge"], loops := true, apart := false, laid := [("io.EOF", laid_io_EOF), ("io.ErrUnexpectedEOF", laid_io_ErrUnexpectedEOF), ("bytes.ErrTooLarge", laid_bytes_ErrTooLarge)] }
def FnThereBackSaid : Prop := fnThereBackRow.holds Tryz.pinned (OpenSpec.ofChange fnThereBackSpec)

/-- ITS FALSE NEIGHBOUR: 'it returns false'. Refute it at one input. -/
def fnThereBackWrong : ChangeSpec := { name := "fnThereBack", fn := fun _ => fun
  | [d1, d2, d3] => { results := [.lit (.bool false)], args := [d1, d2, d3] }
  | _ => none }
def FnThereBackWrongFalsely : Prop := fnThereBackRow.holds Tryz.pinned (OpenSpec.ofChange fnThereBackWrong)

/-- 'laws.FnRow': WHATEVER THE INPUT: true; the input reads as it did. -/
def fnRowSpec : ChangeSpec := { name := "fnRow", fn := fun _ => fun
  | [d1, d2, d3] => { results := [.lit (.bool true)], args := [d1, d2, d3] }
  | _ => none }
def fnRowRow : OpenClaim := { program := "ytelocgemofghaaagreatdoor", sum := "2c09237fce6dc9a61c89658ca50eb822f37f2ca24d7e25ea1c7d0b0b69e10cad", func := "pub-twineward/laws.FnRow", spec := "fnRow", inPlace := ["math.Float64frombits", "math.Float64bits"], unfollowed := true, recurses := true, named := ["io.EOF", "io.ErrUnexpectedEOF", "bytes.ErrTooLarge"], loops := true, apart := false, laid := [("io.EOF", laid_io_EOF), ("io.ErrUnexpectedEOF", laid_io_ErrUnexpectedEOF), ("bytes.ErrTooLarge", laid_bytes_ErrTooLarge)] }
def FnRowSaid : Prop := fnRowRow.holds Tryz.pinned (OpenSpec.ofChange fnRowSpec)

/-- ITS FALSE NEIGHBOUR: 'it returns false'. Refute it at one input. -/
def fnRowWrong : ChangeSpec := { name := "fnRow", fn := fun _ => fun
  | [d1, d2, d3] => { results := [.lit (.bool false)], args := [d1, d2, d3] }
  | _ => none }
def FnRowWrongFalsely : Prop := fnRowRow.holds Tryz.pinned (OpenSpec.ofChange fnRowWrong)

/-- 'laws.FnDepth': WHATEVER THE INPUT: true; the input reads as it did. -/
def fnDepthSpec : ChangeSpec := { name := "fnDepth", fn := fun _ => fun
  | [d1, d2, d3] => { results := [.lit (.bool true)], args := [d1, d2, d3] }
  | _ => none }
def fnDepthRow : OpenClaim := { program := "ytelocgemofghaaagreatdoor", sum := "2c09237fce6dc9a61c89658ca50eb822f37f2ca24d7e25ea1c7d0b0b69e10cad", func := "pub-twineward/laws.FnDepth", spec := "fnDepth", inPlace := ["math.Float64frombits", "math.Float64bits"], unfollowed := true, recurses := true, named := ["io.EOF", "io.ErrUnexpectedEOF", "bytes.ErrTooLarge"], loops := true, apart := false, laid := [("io.EOF", laid_io_EOF), ("io.ErrUnexpectedEOF", laid_io_ErrUnexpectedEOF), ("bytes.ErrTooLarge", laid_bytes_ErrTooLarge)] }
def FnDepthSaid : Prop := fnDepthRow.holds Tryz.pinned (OpenSpec.ofChange fnDepthSpec)

/-- ITS FALSE NEIGHBOUR: 'it returns false'. Refute it at one input. -/
def fnDepthWrong : ChangeSpec := { name := "fnDepth", fn := fun _ => fun
  | [d1, d2, d3] => { results := [.lit (.bool false)], args := [d1, d2, d3] }
  | _ => none }
def FnDepthWrongFalsely : Prop := fnDepthRow.holds Tryz.pinned (OpenSpec.ofChange fnDepthWrong)

/-- 'laws.FnSteps': WHATEVER THE INPUT: true; the input reads as it did. -/
def fnStepsSpec : ChangeSpec := { name := "fnSteps", fn := fun _ => fun
  | [d1, d2, d3] => { results := [.lit (.bool true)], args := [d1, d2, d3] }
  | _ => none }
def fnStepsRow : OpenClaim := { program := "ytelocgemofghaaagreatdoor", sum := "2c09237fce6dc9a61c89658ca50eb822f37f2ca24d7e25ea1c7d0b0b69e10cad", func := "pub-twineward/laws.FnSteps", spec := "fnSteps", inPlace := ["math.Float64frombits", "math.Float64bits"], unfollowed := true, recurses := true, named := ["io.EOF", "io.ErrUnexpectedEOF", "bytes.ErrTooLarge"], loops := true, apart := false, laid := [("io.EOF", laid_io_EOF), ("io.ErrUnexpectedEOF", laid_io_ErrUnexpectedEOF), ("bytes.ErrTooLarge", laid_bytes_ErrTooLarge)] }
def FnStepsSaid : Prop := fnStepsRow.holds Tryz.pinned (OpenSpec.ofChange fnStepsSpec)

/-- ITS FALSE NEIGHBOUR: 'it returns false'. Refute it at one input. -/
def fnStepsWrong : ChangeSpec := { name := "fnSteps", fn := fun _ => fun
  | [d1, d2, d3] => { results := [.lit (.bool false)], args := [d1, d2, d3] }
  | _ => none }
def FnStepsWrongFalsely : Prop := fnStepsRow.holds Tryz.pinned (OpenSpec.ofChange fnStepsWrong)

/-- 'laws.FnSkipDeep': WHATEVER THE INPUT: true; the input reads as it did. -/
def fnSkipDeepSpec : ChangeSpec := { name := "fnSkipDeep", fn := fun _ => fun
  | [d1, d2, d3] => { results := [.lit (.bool true)], args := [d1, d2, d3] }
  | _ => none }
def fnSkipDeepRow : OpenClaim := { program := "ytelocgemofghaaagreatdoor", sum := "2c09237fce6dc9a61c89658ca50eb822f37f2ca24d7e25ea1c7d0b0b69e10cad", func := "pub-twineward/laws.FnSkipDeep", spec := "fnSkipDeep", inPlace := ["math.Float64frombits", "math.Float64bits"], unfollowed := true, recurses := true, named := ["io.EOF", "io.ErrUnexpectedEOF", "bytes.ErrTooLarge"], loops := true, apart := false, laid := [("io.EOF", laid_io_EOF), ("io.ErrUnexpectedEOF", laid_io_ErrUnexpectedEOF), ("bytes.ErrTooLarge", laid_bytes_ErrTooLarge)] }
def FnSkipDeepSaid : Prop := fnSkipDeepRow.holds Tryz.pinned (OpenSpec.ofChange fnSkipDeepSpec)

/-- ITS FALSE NEIGHBOUR: 'it returns false'. Refute it at one input. -/
def fnSkipDeepWrong : ChangeSpec := { name := "fnSkipDeep", fn := fun _ => fun
  | [d1, d2, d3] => { results := [.lit (.bool false)], args := [d1, d2, d3] }
  | _ => none }
def FnSkipDeepWrongFalsely : Prop := fnSkipDeepRow.holds Tryz.pinned (OpenSpec.ofChange fnSkipDeepWrong)

/-- 'laws.FnCompactFields': WHATEVER THE INPUT: true; the input reads as it did. -/
def fnCompactFieldsSpec : ChangeSpec := { name := "fnCompactFields", fn := fun _ => fun
  | [d1, d2, d3] => { results := [.lit (.bool true)], args := [d1, d2, d3] }
  | _ => none }
def fnCompactFieldsRow : OpenClaim := { program := "ytelocgemofghaaagreatdoor", sum := "2c09237fce6dc9a61c89658ca50eb822f37f2ca24d7e25ea1c7d0b0b69e10cad", func := "pub-twineward/laws.FnCompactFields", spec := "fnCompactFields", inPlace := ["math.Float64frombits", "math.Float64bits"], unfollowed := true, recurses := true, named := ["io.EOF", "io.ErrUnexpectedEOF", "bytes.ErrTooLarge"], apart := false, laid := [("io.EOF", laid_io_EOF), ("io.ErrUnexpectedEOF", laid_io_ErrUnexpectedEOF), ("bytes.ErrTooLarge", laid_bytes_ErrTooLarge)] }
def FnCompactFieldsSaid : Prop := fnCompactFieldsRow.holds Tryz.pinned (OpenSpec.ofChange fnCompactFieldsSpec)

/-- ITS FALSE NEIGHBOUR: 'it returns false'. Refute it at one input. -/
def fnCompactFieldsWrong : ChangeSpec := { name := "fnCompactFields", fn := fun _ => fun
  | [d1, d2, d3] => { results := [.lit (.bool false)], args := [d1, d2, d3] }
  | _ => none }
def FnCompactFieldsWrongFalsely : Prop := fnCompactFieldsRow.holds Tryz.pinned (OpenSpec.ofChange fnCompactFieldsWrong)

/-- 'laws.FnName': WHATEVER THE INPUT: true; the input reads as it did. -/
def fnNameSpec : ChangeSpec := { name := "fnName", fn := fun _ => fun
  | [d1, d2, d3, d4, d5] => { results := [.lit (.bool true)], args := [d1, d2, d3, d4, d5] }
  | _ => none }
def fnNameRow : OpenClaim := { program := "ytelocgemofghaaagreatdoor", sum := "2c09237fce6dc9a61c89658ca50eb822f37f2ca24d7e25ea1c7d0b0b69e10cad", func := "pub-twineward/laws.FnName", spec := "fnName", inPlace := ["math.Float64frombits", "math.Float64bits"], unfollowed := true, recurses := true, named := ["io.EOF", "io.ErrUnexpectedEOF", "bytes.ErrTooLarge"], apart := false, laid := [("io.EOF", laid_io_EOF), ("io.ErrUnexpectedEOF", laid_io_ErrUnexpectedEOF), ("bytes.ErrTooLarge", laid_bytes_ErrTooLarge)] }
def FnNameSaid : Prop := fnNameRow.holds Tryz.pinned (OpenSpec.ofChange fnNameSpec)

/-- ITS FALSE NEIGHBOUR: 'it returns false'. Refute it at one input. -/
def fnNameWrong : ChangeSpec := { name := "fnName", fn := fun _ => fun
  | [d1, d2, d3, d4, d5] => { results := [.lit (.bool false)], args := [d1, d2, d3, d4, d5] }
  | _ => none }
def FnNameWrongFalsely : Prop := fnNameRow.holds Tryz.pinned (OpenSpec.ofChange fnNameWrong)

/- THE SECOND FORM. 'bulk': how many values and letters a reading holds, each counted each time it is reached (what is shared counts as often as it is met; a slice's spare places count too). A statement '..UptoSaid' is the law's where the arguments, and the package variables that the reading takes, are together of bulk at most 1048576: NARROWER than '..Said'. Prove '..Said' where nothing that the law and all that it calls make is longer than what came in: it says more and counts as full. Else prove '..UptoSaid'. A law counts once. -/
mutual
def uptoBulk {H : Type} : DataW H → Nat
  | .lit (.string bytes) => bytes.length + 1
  | .lit _ => 1
  | .nil => 1
  | .ptr d => uptoBulk d + 1
  | .slice elems spare => uptoBulkAll elems + uptoBulkAll spare + 1
  | .agg parts => uptoBulkAll parts + 1
  | .iface _ d => uptoBulk d + 1
  | .map entries => uptoBulkEntries entries + 1
  | .held _ => 1
def uptoBulkAll {H : Type} : List (DataW H) → Nat
  | [] => 0
  | d :: r => uptoBulk d + uptoBulkAll r
def uptoBulkEntries {H : Type} : List (Lit × DataW H) → Nat
  | [] => 0
  | x :: r => uptoBulkEntry x + uptoBulkEntries r
def uptoBulkEntry {H : Type} : Lit × DataW H → Nat
  | (.string bytes, d) => bytes.length + uptoBulk d + 1
  | (_, d) => uptoBulk d + 1
 end
def uptoSmall : (H : Type) → List (DataW H) → Bool := fun _ ds => decide (uptoBulkAll ds ≤ 1048576)
def OpenSpec.upto (s : _root_.Go.ChangeSpec) : _root_.Go.OpenSpec := { _root_.Go.OpenSpec.ofChange s with cond := some uptoSmall }

/-- 'laws.FnNegative', WHERE WHAT IT READS IS OF BULK AT MOST 1048576: true; the input reads as it did. -/
def fnNegativeUptoRow : OpenClaim := { program := "ytelocgemofghaaagreatdoor", sum := "2c09237fce6dc9a61c89658ca50eb822f37f2ca24d7e25ea1c7d0b0b69e10cad", func := "pub-twineward/laws.FnNegative", spec := "fnNegative", inPlace := ["math.Float64frombits", "math.Float64bits"], unfollowed := true, recurses := true, named := ["io.EOF", "io.ErrUnexpectedEOF", "bytes.ErrTooLarge"], apart := false, laid := [("io.EOF", laid_io_EOF), ("io.ErrUnexpectedEOF", laid_io_ErrUnexpectedEOF), ("bytes.ErrTooLarge", laid_bytes_ErrTooLarge)], narrowed := true }
def FnNegativeUptoSaid : Prop := fnNegativeUptoRow.holds Tryz.pinned (OpenSpec.upto fnNegativeSpec)

/-- 'laws.FnLimitTexts', WHERE WHAT IT READS IS OF BULK AT MOST 1048576: true; the input reads as it did. -/
def fnLimitTextsUptoRow : OpenClaim := { program := "ytelocgemofghaaagreatdoor", sum := "2c09237fce6dc9a61c89658ca50eb822f37f2ca24d7e25ea1c7d0b0b69e10cad", func := "pub-twineward/laws.FnLimitTexts", spec := "fnLimitTexts", inPlace := ["math.Float64frombits", "math.Float64bits"], unfollowed := true, recurses := true, named := ["io.EOF", "io.ErrUnexpectedEOF", "bytes.ErrTooLarge"], apart := false, laid := [("io.EOF", laid_io_EOF), ("io.ErrUnexpectedEOF", laid_io_ErrUnexpectedEOF), ("bytes.ErrTooLarge", laid_bytes_ErrTooLarge)], narrowed := true }
def FnLimitTextsUptoSaid : Prop := fnLimitTextsUptoRow.holds Tryz.pinned (OpenSpec.upto fnLimitTextsSpec)

/-- 'laws.FnThereBack', WHERE WHAT IT READS IS OF BULK AT MOST 1048576: true; the input reads as it did. -/
def fnThereBackUptoRow : OpenClaim := { program := "ytelocgemofghaaagreatdoor", sum := "2c09237fce6dc9a61c89658ca50eb822f37f2ca24d7e25ea1c7d0b0b69e10cad", func := "pub-twineward/laws.FnThereBack", spec := "fnThereBack", inPlace := ["math.Float64frombits", "math.Float64bits"], unfollowed := true, recurses := true, named := ["io.EOF", "io.ErrUnexpectedEOF", "bytes.ErrTooLarge"], loops := true, apart := false, laid := [("io.EOF", laid_io_EOF), ("io.ErrUnexpectedEOF", laid_io_ErrUnexpectedEOF), ("bytes.ErrTooLarge", laid_bytes_ErrTooLarge)], narrowed := true }
def FnThereBackUptoSaid : Prop := fnThereBackUptoRow.holds Tryz.pinned (OpenSpec.upto fnThereBackSpec)

/-- 'laws.FnRow', WHERE WHAT IT READS IS OF BULK AT MOST 1048576: true; the input reads as it did. -/
def fnRowUptoRow : OpenClaim := { program := "ytelocgemofghaaagreatdoor", sum := "2c09237fce6dc9a61c89658ca50eb822f37f2ca24d7e25ea1c7d0b0b69e10cad", func := "pub-twineward/laws.FnRow", spec := "fnRow", inPlace := ["math.Float64frombits", "math.Float64bits"], unfollowed := true, recurses := true, named := ["io.EOF", "io.ErrUnexpectedEOF", "bytes.ErrTooLarge"], loops := true, apart := false, laid := [("io.EOF", laid_io_EOF), ("io.ErrUnexpectedEOF", laid_io_ErrUnexpectedEOF), ("bytes.ErrTooLarge", laid_bytes_ErrTooLarge)], narrowed := true }
def FnRowUptoSaid : Prop := fnRowUptoRow.holds Tryz.pinned (OpenSpec.upto fnRowSpec)

/-- 'laws.FnDepth', WHERE WHAT IT READS IS OF BULK AT MOST 1048576: true; the input reads as it did. -/
def fnDepthUptoRow : OpenClaim := { program := "ytelocgemofghaaagreatdoor", sum := "2c09237fce6dc9a61c89658ca50eb822f37f2ca24d7e25ea1c7d0b0b69e10cad", func := "pub-twineward/laws.FnDepth", spec := "fnDepth", inPlace := ["math.Float64frombits", "math.Float64bits"], unfollowed := true, recurses := true, named := ["io.EOF", "io.ErrUnexpectedEOF", "bytes.ErrTooLarge"], loops := true, apart := false, laid := [("io.EOF", laid_io_EOF), ("io.ErrUnexpectedEOF", laid_io_ErrUnexpectedEOF), ("bytes.ErrTooLarge", laid_bytes_ErrTooLarge)], narrowed := true }
def FnDepthUptoSaid : Prop := fnDepthUptoRow.holds Tryz.pinned (OpenSpec.upto fnDepthSpec)

/-- 'laws.FnSteps', WHERE WHAT IT READS IS OF BULK AT MOST 1048576: true; the input reads as it did. -/
def fnStepsUptoRow : OpenClaim := { program := "ytelocgemofghaaagreatdoor", sum := "2c09237fce6dc9a61c89658ca50eb822f37f2ca24d7e25ea1c7d0b0b69e10cad", func := "pub-twineward/laws.FnSteps", spec := "fnSteps", inPlace := ["math.Float64frombits", "math.Float64bits"], unfollowed := true, recurses := true, named := ["io.EOF", "io.ErrUnexpectedEOF", "bytes.ErrTooLarge"], loops := true, apart := false, laid := [("io.EOF", laid_io_EOF), ("io.ErrUnexpectedEOF", laid_io_ErrUnexpectedEOF), ("bytes.ErrTooLarge", laid_bytes_ErrTooLarge)], narrowed := true }
def FnStepsUptoSaid : Prop := fnStepsUptoRow.holds Tryz.pinned (OpenSpec.upto fnStepsSpec)

/-- 'laws.FnSkipDeep', WHERE WHAT IT READS IS OF BULK AT MOST 1048576: true; the input reads as it did. -/
def fnSkipDeepUptoRow : OpenClaim := { program := "ytelocgemofghaaagreatdoor", sum := "2c09237fce6dc9a61c89658ca50eb822f37f2ca24d7e25ea1c7d0b0b69e10cad", func := "pub-twineward/laws.FnSkipDeep", spec := "fnSkipDeep", inPlace := ["math.Float64frombits", "math.Float64bits"], unfollowed := true, recurses := true, named := ["io.EOF", "io.ErrUnexpectedEOF", "bytes.ErrTooLarge"], loops := true, apart := false, laid := [("io.EOF", laid_io_EOF), ("io.ErrUnexpectedEOF", laid_io_ErrUnexpectedEOF), ("bytes.ErrTooLarge", laid_bytes_ErrTooLarge)], narrowed := true }
def FnSkipDeepUptoSaid : Prop := fnSkipDeepUptoRow.holds Tryz.pinned (OpenSpec.upto fnSkipDeepSpec)

/-- 'laws.FnCompactFields', WHERE WHAT IT READS IS OF BULK AT MOST 1048576: true; the input reads as it did. -/
def fnCompactFieldsUptoRow : OpenClaim := { program := "ytelocgemofghaaagreatdoor", sum := "2c09237fce6dc9a61c89658ca50eb822f37f2ca24d7e25ea1c7d0b0b69e10cad", func := "pub-twineward/laws.FnCompactFields", spec := "fnCompactFields", inPlace := ["math.Float64frombits", "math.Float64bits"], unfollowed := true, recurses := true, named := ["io.EOF", "io.ErrUnexpectedEOF", "bytes.ErrTooLarge"], apart := false, laid := [("io.EOF", laid_io_EOF), ("io.ErrUnexpectedEOF", laid_io_ErrUnexpectedEOF), ("bytes.ErrTooLarge", laid_bytes_ErrTooLarge)], narrowed := true }
def FnCompactFieldsUptoSaid : Prop := fnCompactFieldsUptoRow.holds Tryz.pinned (OpenSpec.upto fnCompactFieldsSpec)

/-- 'laws.FnName', WHERE WHAT IT READS IS OF BULK AT MOST 1048576: true; the input reads as it did. -/
def fnNameUptoRow : OpenClaim := { program := "ytelocgemofghaaagreatdoor", sum := "2c09237fce6dc9a61c89658ca50eb822f37f2ca24d7e25ea1c7d0b0b69e10cad", func := "pub-twineward/laws.FnName", spec := "fnName", inPlace := ["math.Float64frombits", "math.Float64bits"], unfollowed := true, recurses := true, named := ["io.EOF", "io.ErrUnexpectedEOF", "bytes.ErrTooLarge"], apart := false, laid := [("io.EOF", laid_io_EOF), ("io.ErrUnexpectedEOF", laid_io_ErrUnexpectedEOF), ("bytes.ErrTooLarge", laid_bytes_ErrTooLarge)], narrowed := true }
def FnNameUptoSaid : Prop := fnNameUptoRow.holds Tryz.pinned (OpenSpec.upto fnNameSpec)

end Rows
end Go.Proofs.YtelocgemofghaaaGreatDoor
