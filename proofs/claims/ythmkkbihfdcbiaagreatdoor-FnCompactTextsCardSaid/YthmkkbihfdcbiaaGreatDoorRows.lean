/-
  NARROWER THAN 'FOR EVERY INPUT', by the rows' own cells (each row's printed sentence says how): FnLimitTexts: laid · FnNegative: laid · FnCompactNumbers: laid · FnCompactTexts: laid · FnCompactMessages: laid · FnCompactLists: laid · FnCompactMaps: laid · FnCompactFields: laid · FnName: laid.
  DERIVED. THE GIVEN ROWS OF THIS SEAT. 9 by the template 'for every input the law returns true; each argument reads behind the call as it read before'; 0 by the template 'total and deterministic' (their statements: YthmkkbihfdcbiaaGreatDoorTotals.lean).
  GIVEN WITH THE SEED: the statements are not yours to turn. If you find one false, say at which input.
  Laid BY PROGRAM, IN A SANDBOX (cutbox-rows.mjs): the forced cells as the released guide's own fill.sh prints them over the translation 7cd06167adae160c… (all of the seat's roots in one cut). By AI agents, Wed Nov 11 2026. No macro, syntax, notation, axiom, sorry.
-/
import Derived.Test.YthmkkbihfdcbiaaGreatDoorChecked
import GoSem.Claim
import GoSem.ClaimJoined
import GoSem.ClaimMapViews
import Derived.JoinedTies
import Derived.KernelRfl
namespace Go.Proofs.YthmkkbihfdcbiaaGreatDoor
/- THE CELL 'sum', in the pinned program and in every row, IS THE sha256 OF THE DUMP (.gsa) THAT YthmkkbihfdcbiaaGreatDoorProg.lean LOADS. Nothing in Lean hashes anything: it is a label: what it is worth is what the hold of that sum in a sandbox is worth. -/
noncomputable def Tryz.pinned : Pinned := { name := "ythmkkbihfdcbiaagreatdoor", sum := "7cd06167adae160cb67d12cbe5dc1005a3cc42778034e51473644d0905e23422", checked := Tryz.checked }
namespace Rows
def none {H : Type} : Left H := { results := [], args := [] }

/- WHAT THE LISTED PACKAGE-LEVEL VARIABLES READ AS WHEN THE CALL BEGINS. Each datum BY PROGRAM (the guide's laid-datum.mjs) off the statement by which the dump's own 'gosem.cut.vars' lays the variable. In a bare row this is a premise. The card (YthmkkbihfdcbiaaGreatDoorCards.lean) ties it to the program's text. -/
def laid_io_EOF {H : Type} : DataW H := .iface "*errors.errorString" (.ptr (.agg [.lit (.string [69, 79, 70])]))
def laid_io_ErrUnexpectedEOF {H : Type} : DataW H := .iface "*errors.errorString" (.ptr (.agg [.lit (.string [117, 110, 101, 120, 112, 101, 99, 116, 101, 100, 32, 69, 79, 70])]))
def laid_bytes_ErrTooLarge {H : Type} : DataW H := .iface "*errors.errorString" (.ptr (.agg [.lit (.string [98, 121, 116, 101, 115, 46, 66, 117, 102, 102, 101, 114, 58, 32, 116, 111, 111, 32, 108, 97, 114, 103, 101])]))

/-- 'laws.FnLimitTexts': WHATEVER THE INPUT: true; the input reads as it did. -/
def fnLimitTextsSpec : ChangeSpec := { name := "fnLimitTexts", fn := fun _ => fun
  | [d1, d2, d3] => { results := [.lit (.bool true)], args := [d1, d2, d3] }
  | _ => none }
def fnLimitTextsRow : OpenClaim := { program := "ythmkkbihfdcbiaagreatdoor", sum := "7cd06167adae160cb67d12cbe5dc1005a3cc42778034e51473644d0905e23422", func := "pub-twineward/laws.FnLimitTexts", spec := "fnLimitTexts", inPlace := ["math.Float64frombits", "math.Float64bits"], unfollowed := true, recurses := true, named := ["io.EOF", "io.ErrUnexpectedEOF", "bytes.ErrTooLarge"], apart := false, laid := [("io.EOF", laid_io_EOF), ("io.ErrUnexpectedEOF", laid_io_ErrUnexpectedEOF), ("bytes.ErrTooLarge", laid_bytes_ErrTooLarge)] }
def FnLimitTextsSaid : Prop := fnLimitTextsRow.holds Tryz.pinned (OpenSpec.ofChange fnLimitTextsSpec)

/-- ITS FALSE NEIGHBOUR: 'it returns false'. Refute it at one input. -/
def fnLimitTextsWrong : ChangeSpec := { name := "fnLimitTexts", fn := fun _ => fun
  | [d1, d2, d3] => { results := [.lit (.bool false)], args := [d1, d2, d3] }
  | _ => none }
def FnLimitTextsWrongFalsely : Prop := fnLimitTextsRow.holds Tryz.pinned (OpenSpec.ofChange fnLimitTextsWrong)

/-- 'laws.FnNegative': WHATEVER THE INPUT: true; the input reads as it did. -/
def fnNegativeSpec : ChangeSpec := { name := "fnNegative", fn := fun _ => fun
  | [d1, d2, d3] => { results := [.lit (.bool true)], args := [d1, d2, d3] }
  | _ => none }
def fnNegativeRow : OpenClaim := { program := "ythmkkbihfdcbiaagreatdoor", sum := "7cd06167adae160cb67d12cbe5dc1005a3cc42778034e51473644d0905e23422", func := "pub-twineward/laws.FnNegative", spec := "fnNegative", inPlace := ["math.Float64frombits", "math.Float64bits"], unfollowed := true, recurses := true, named := ["io.EOF", "io.ErrUnexpectedEOF", "bytes.ErrTooLarge"], apart := false, laid := [("io.EOF", laid_io_EOF), ("io.ErrUnexpectedEOF", laid_io_ErrUnexpectedEOF), ("bytes.ErrTooLarge", laid_bytes_ErrTooLarge)] }
def FnNegativeSaid : Prop := fnNegativeRow.holds Tryz.pinned (OpenSpec.ofChange fnNegativeSpec)

/-- ITS FALSE NEIGHBOUR: 'it returns false'. Refute it at one input. -/
def fnNegativeWrong : ChangeSpec := { name := "fnNegative", fn := fun _ => fun
  | [d1, d2, d3] => { results := [.lit (.bool false)], args := [d1, d2, d3] }
  | _ => none }
def FnNegativeWrongFalsely : Prop := fnNegativeRow.holds Tryz.pinned (OpenSpec.ofChange fnNegativeWrong)

/-- 'laws.FnCompactNumbers': WHATEVER THE INPUT: true; the input reads as it did. -/
def fnCompactNumbersSpec : ChangeSpec := { name := "fnCompactNumbers", fn := fun _ => fun
  | [d1, d2, d3] => { results := [.lit (.bool true)], args := [d1, d2, d3] }
  | _ => none }
def fnCompactNumbersRow : OpenClaim := { program := "ythmkkbihfdcbiaagreatdoor", sum := "7cd06167adae160cb67d12cbe5dc1005a3cc42778034e51473644d0905e23422", func := "pub-twineward/laws.FnCompactNumbers", spec := "fnCompactNumbers", inPlace := ["math.Float64frombits", "math.Float64bits"], unfollowed := true, recurses := true, named := ["io.EOF", "io.ErrUnexpectedEOF", "bytes.ErrTooLarge"], apart := false, laid := [("io.EOF", laid_io_EOF), ("io.ErrUnexpectedEOF", laid_io_ErrUnexpectedEOF), ("bytes.ErrTooLarge", laid_bytes_ErrTooLarge)] }
def FnCompactNumbersSaid : Prop := fnCompactNumbersRow.holds Tryz.pinned (OpenSpec.ofChange fnCompactNumbersSpec)

/-- ITS FALSE NEIGHBOUR: 'it returns false'. Refute it at one input. -/
def fnCompactNumbersWrong : ChangeSpec := { name := "fnCompactNumbers", fn := fun _ => fun
  | [d1, d2, d3] => { results := [.lit (.bool false)], args := [d1, d2, d3] }
  | _ => none }
def FnCompactNumbersWrongFalsely : Prop := fnCompactNumbersRow.holds Tryz.pinned (OpenSpec.ofChange fnCompactNumbersWrong)

/-- 'laws.FnCompactTexts': WHATEVER THE INPUT: true; the input reads as it did. -/
def fnCompactTextsSpec : ChangeSpec := { name := "fnCompactTexts", fn := fun _ => fun
  | [d1, d2, d3] => { results := [.lit (.bool true)], args := [d1, d2, d3] }
  | _ => none }
def fnCompactTextsRow : OpenClaim := { program := "ythmkkbihfdcbiaagreatdoor", sum := "7cd06167adae160cb67d12cbe5dc1005a3cc42778034e51473644d0905e23422", func := "pub-twineward/laws.FnCompactTexts", spec := "fnCompactTexts", inPlace := ["math.Float64frombits", "math.Float64bits"], unfollowed := true, recurses := true, named := ["io.EOF", "io.ErrUnexpectedEOF", "bytes.ErrTooLarge"], apart := false, laid := [("io.EOF", laid_io_EOF), ("io.ErrUnexpectedEOF", laid_io_ErrUnexpectedEOF), ("bytes.ErrTooLarge", laid_bytes_ErrTooLarge)] }
def FnCompactTextsSaid : Prop := fnCompactTextsRow.holds Tryz.pinned (OpenSpec.ofChange fnCompactTextsSpec)

/-- ITS FALSE NEIGHBOUR: 'it returns false'. Refute it at one input. -/
def fnCompactTextsWrong : ChangeSpec := { name := "fnCompactTexts", fn := fun _ => fun
  | [d1, d2, d3] => { results := [.lit (.bool false)], args := [d1, d2, d3] }
  | _ => none }
def FnCompactTextsWrongFalsely : Prop := fnCompactTextsRow.holds Tryz.pinned (OpenSpec.ofChange fnCompactTextsWrong)

/-- 'laws.FnCompactMessages': WHATEVER THE INPUT: true; the input reads as it did. -/
def fnCompactMessagesSpec : ChangeSpec := { name := "fnCompactMessages", fn := fun _ => fun
  | [d1, d2, d3, d4, d5, d6, d7] => { results := [.lit (.bool true)], args := [d1, d2, d3, d4, d5, d6, d7] }
  | _ => none }
def fnCompactMessagesRow : OpenClaim := { program := "ythmkkbihfdcbiaagreatdoor", sum := "7cd06167adae160cb67d12cbe5dc1005a3cc42778034e51473644d0905e23422", func := "pub-twineward/laws.FnCompactMessages", spec := "fnCompactMessages", inPlace := ["math.Float64frombits", "math.Float64bits"], unfollowed := true, recurses := true, named := ["io.EOF", "io.ErrUnexpectedEOF", "bytes.ErrTooLarge"], apart := false, laid := [("io.EOF", laid_io_EOF), ("io.ErrUnexpectedEOF", laid_io_ErrUnexpectedEOF), ("bytes.ErrTooLarge", laid_bytes_ErrTooLarge)] }
def FnCompactMessagesSaid : Prop := fnCompactMessagesRow.holds Tryz.pinned (OpenSpec.ofChange fnCompactMessagesSpec)

/-- ITS FALSE NEIGHBOUR: 'it returns false'. Refute it at one input. -/
def fnCompactMessagesWrong : ChangeSpec := { name := "fnCompactMessages", fn := fun _ => fun
  | [d1, d2, d3, d4, d5, d6, d7] => { results := [.lit (.bool false)], args := [d1, d2, d3, d4, d5, d6, d7] }
  | _ => none }
def FnCompactMessagesWrongFalsely : Prop := fnCompactMessagesRow.holds Tryz.pinned (OpenSpec.ofChange fnCompactMessagesWrong)

/-- 'laws.FnCompactLists': WHATEVER THE INPUT: true; the input reads as it did. -/
def fnCompactListsSpec : ChangeSpec := { name := "fnCompactLists", fn := fun _ => fun
  | [d1, d2, d3, d4] => { results := [.lit (.bool true)], args := [d1, d2, d3, d4] }
  | _ => none }
def fnCompactListsRow : OpenClaim := { program := "ythmkkbihfdcbiaagreatdoor", sum := "7cd06167adae160cb67d12cbe5dc1005a3cc42778034e51473644d0905e23422", func := "pub-twineward/laws.FnCompactLists", spec := "fnCompactLists", inPlace := ["math.Float64frombits", "math.Float64bits"], unfollowed := true, recurses := true, named := ["io.EOF", "io.ErrUnexpectedEOF", "bytes.ErrTooLarge"], apart := false, laid := [("io.EOF", laid_io_EOF), ("io.ErrUnexpectedEOF", laid_io_ErrUnexpectedEOF), ("bytes.ErrTooLarge", laid_bytes_ErrTooLarge)] }
def FnCompactListsSaid : Prop := fnCompactListsRow.holds Tryz.pinned (OpenSpec.ofChange fnCompactListsSpec)

/-- ITS FALSE NEIGHBOUR: 'it returns false'. Refute it at one input. -/
def fnCompactListsWrong : ChangeSpec := { name := "fnCompactLists", fn := fun _ => fun
  | [d1, d2, d3, d4] => { results := [.lit (.bool false)], args := [d1, d2, d3, d4] }
  | _ => none }
def FnCompactListsWrongFalsely : Prop := fnCompactListsRow.holds Tryz.pinned (OpenSpec.ofChange fnCompactListsWrong)

/-- 'laws.FnCompactMaps': WHATEVER THE INPUT: true; the input reads as it did. -/
def fnCompactMapsSpec : ChangeSpec := { name := "fnCompactMaps", fn := fun _ => fun
  | [d1, d2, d3, d4, d5] => { results := [.lit (.bool true)], args := [d1, d2, d3, d4, d5] }
  | _ => none }
def fnCompactMapsRow : OpenClaim := { program := "ythmkkbihfdcbiaagreatdoor", sum := "7cd06167adae160cb67d12cbe5dc1005a3cc42778034e51473644d0905e23422", func := "pub-twineward/laws.FnCompactMaps", spec := "fnCompactMaps", inPlace := ["math.Float64frombits", "math.Float64bits"], unfollowed := true, recurses := true, named := ["io.EOF", "io.ErrUnexpectedEOF", "bytes.ErrTooLarge"], apart := false, laid := [("io.EOF", laid_io_EOF), ("io.ErrUnexpectedEOF", laid_io_ErrUnexpectedEOF), ("bytes.ErrTooLarge", laid_bytes_ErrTooLarge)] }
def FnCompactMapsSaid : Prop := fnCompactMapsRow.holds Tryz.pinned (OpenSpec.ofChange fnCompactMapsSpec)

/-- ITS FALSE NEIGHBOUR: 'it returns false'. Refute it at one input. -/
def fnCompactMapsWrong : ChangeSpec := { name := "fnCompactMaps", fn := fun _ => fun
  | [d1, d2, d3, d4, d5] => { results := [.lit (.bool false)], args := [d1, d2, d3, d4, d5] }
  | _ => none }
def FnCompactMapsWrongFalsely : Prop := fnCompactMapsRow.holds Tryz.pinned (OpenSpec.ofChange fnCompactMapsWrong)

/-- 'laws.FnCompactFields': WHATEVER THE INPUT: true; the input reads as it did. -/
def fnCompactFieldsSpec : ChangeSpec := { name := "fnCompactFields", fn := fun _ => fun
  | [d1, d2, d3] => { results := [.lit (.bool true)], args := [d1, d2, d3] }
  | _ => none }
def fnCompactFieldsRow : OpenClaim := { program := "ythmkkbihfdcbiaagreatdoor", sum := "7cd06167adae160cb67d12cbe5dc1005a3cc42778034e51473644d0905e23422", func := "pub-twineward/laws.FnCompactFields", spec := "fnCompactFields", inPlace := ["math.Float64frombits", "math.Float64bits"], unfollowed := true, recurses := true, named := ["io.EOF", "io.ErrUnexpectedEOF", "bytes.ErrTooLarge"], apart := false, laid := [("io.EOF", laid_io_EOF), ("io.ErrUnexpectedEOF", laid_io_ErrUnexpectedEOF), ("bytes.ErrTooLarge", laid_bytes_ErrTooLarge)] }
def FnCompactFieldsSaid : Prop := fnCompactFieldsRow.holds Tryz.pinned (OpenSpec.ofChange fnCompactFieldsSpec)

/-- ITS FALSE NEIGHBOUR: 'it returns false'. Refute it at one input. -/
def fnCompactFieldsWrong : ChangeSpec := { name := "fnCompactFields", fn := fun _ => fun
  | [d1, d2, d3] => { results := [.lit (.bool false)], args := [d1, d2, d3] }
  | _ => none }
def FnCompactFieldsWrongFalsely : Prop := fnCompactFieldsRow.holds Tryz.pinned (OpenSpec.ofChange fnCompactFieldsWrong)

/-- 'laws.FnName': WHATEVER THE INPUT: true; the input reads as it did. -/
def fnNameSpec : ChangeSpec := { name := "fnName", fn := fun _ => fun
  | [d1, d2, d3, d4, d5] => { results := [.lit (.bool true)], args := [d1, d2, d3, d4, d5] }
  | _ => none }
def fnNameRow : OpenClaim := { program := "ythmkkbihfdcbiaagreatdoor", sum := "7cd06167adae160cb67d12cbe5dc1005a3cc42778034e51473644d0905e23422", func := "pub-twineward/laws.FnName", spec := "fnName", inPlace := ["math.Float64frombits", "math.Float64bits"], unfollowed := true, recurses := true, named := ["io.EOF", "io.ErrUnexpectedEOF", "bytes.ErrTooLarge"], apart := false, laid := [("io.EOF", laid_io_EOF), ("io.ErrUnexpectedEOF", laid_io_ErrUnexpectedEOF), ("bytes.ErrTooLarge", laid_bytes_ErrTooLarge)] }
def FnNameSaid : Prop := fnNameRow.holds Tryz.pinned (OpenSpec.ofChange fnNameSpec)

/-- ITS FALSE NEIGHBOUR: 'it returns false'. Refute it at one input. -/
def fnNameWrong : ChangeSpec := { name := "fnName", fn := fun _ => fun
  | [d1, d2, d3, d4, d5] => { results := [.lit (.bool false)], args := [d1, d2, d3, d4, d5] }
  | _ => none }
def FnNameWrongFalsely : Prop := fnNameRow.holds Tryz.pinned (OpenSpec.ofChange fnNameWrong)

/- THE SECOND FORM. 'bulk': how many values and letters a reading holds, each counted each time it is reached (what is shared counts as often as it is met; a slice's spare places count too). A statement '..UptoSaid' is the law's where the arguments, and the package variables that the reading takes, are together of bulk at most 1048576: NARROWER than '..Said'. Prove '..Said' where nothing that the law and all that it calls make is longer than what came in: it says more and counts as full. Else prove '..UptoSaid'. A law counts once. -/
mutual
def uptoBulk {H : Type} : DataW H → Nat
  | .lit (.string bytes) => bytes.length + 1
  | .lit _ => 1
  | .nil => 1
  | .ptr d => uptoBulk d + 1
  | .slice elems spare => uptoBulkAll elems + uptoBulkAll spare + 1
  | .agg parts => uptoBulkAll parts + 1
  | .iface _ d => uptoBulk d + 1
  | .map entries => uptoBulkEntries entries + 1
  | .held _ => 1
def uptoBulkAll {H : Type} : List (DataW H) → Nat
  | [] => 0
  | d :: r => uptoBulk d + uptoBulkAll r
def uptoBulkEntries {H : Type} : List (Lit × DataW H) → Nat
  | [] => 0
  | x :: r => uptoBulkEntry x + uptoBulkEntries r
def uptoBulkEntry {H : Type} : Lit × DataW H → Nat
  | (.string bytes, d) => bytes.length + uptoBulk d + 1
  | (_, d) => uptoBulk d + 1
 end
def uptoSmall : (H : Type) → List (DataW H) → Bool := fun _ ds => decide (uptoBulkAll ds ≤ 1048576)
def OpenSpec.upto (s : _root_.Go.ChangeSpec) : _root_.Go.OpenSpec := { _root_.Go.OpenSpec.ofChange s with cond := some uptoSmall }

/-- 'laws.FnLimitTexts', WHERE WHAT IT READS IS OF BULK AT MOST 1048576: true; the input reads as it did. -/
def fnLimitTextsUptoRow : OpenClaim := { program := "ythmkkbihfdcbiaagreatdoor", sum := "7cd06167adae160cb67d12cbe5dc1005a3cc42778034e51473644d0905e23422", func := "pub-twineward/laws.FnLimitTexts", spec := "fnLimitTexts", inPlace := ["math.Float64frombits", "math.Float64bits"], unfollowed := true, recurses := true, named := ["io.EOF", "io.ErrUnexpectedEOF", "bytes.ErrTooLarge"], apart := false, laid := [("io.EOF", laid_io_EOF), ("io.ErrUnexpectedEOF", laid_io_ErrUnexpectedEOF), ("bytes.ErrTooLarge", laid_bytes_ErrTooLarge)], narrowed := true }
def FnLimitTextsUptoSaid : Prop := fnLimitTextsUptoRow.holds Tryz.pinned (OpenSpec.upto fnLimitTextsSpec)

/-- 'laws.FnNegative', WHERE WHAT IT READS IS OF BULK AT MOST 1048576: true; the input reads as it did. -/
def fnNegativeUptoRow : OpenClaim := { program := "ythmkkbihfdcbiaagreatdoor", sum := "7cd06167adae160cb67d12cbe5dc1005a3cc42778034e51473644d0905e23422", func := "pub-twineward/laws.FnNegative", spec := "fnNegative", inPlace := ["math.Float64frombits", "math.Float64bits"], unfollowed := true, recurses := true, named := ["io.EOF", "io.ErrUnexpectedEOF", "bytes.ErrTooLarge"], apart := false, laid := [("io.EOF", laid_io_EOF), ("io.ErrUnexpectedEOF", laid_io_ErrUnexpectedEOF), ("bytes.ErrTooLarge", laid_bytes_ErrTooLarge)], narrowed := true }
def FnNegativeUptoSaid : Prop := fnNegativeUptoRow.holds Tryz.pinned (OpenSpec.upto fnNegativeSpec)

/-- 'laws.FnCompactNumbers', WHERE WHAT IT READS IS OF BULK AT MOST 1048576: true; the input reads as it did. -/
def fnCompactNumbersUptoRow : OpenClaim := { program := "ythmkkbihfdcbiaagreatdoor", sum := "7cd06167adae160cb67d12cbe5dc1005a3cc42778034e51473644d0905e23422", func := "pub-twineward/laws.FnCompactNumbers", spec := "fnCompactNumbers", inPlace := ["math.Float64frombits", "math.Float64bits"], unfollowed := true, recurses := true, named := ["io.EOF", "io.ErrUnexpectedEOF", "bytes.ErrTooLarge"], apart := false, laid := [("io.EOF", laid_io_EOF), ("io.ErrUnexpectedEOF", laid_io_ErrUnexpectedEOF), ("bytes.ErrTooLarge", laid_bytes_ErrTooLarge)], narrowed := true }
def FnCompactNumbersUptoSaid : Prop := fnCompactNumbersUptoRow.holds Tryz.pinned (OpenSpec.upto fnCompactNumbersSpec)

/-- 'laws.FnCompactTexts', WHERE WHAT IT READS IS OF BULK AT MOST 1048576: true; the input reads as it did. -/
def fnCompactTextsUptoRow : OpenClaim := { program := "ythmkkbihfdcbiaagreatdoor", sum := "7cd06167adae160cb67d12cbe5dc1005a3cc42778034e51473644d0905e23422", func := "pub-twineward/laws.FnCompactTexts", spec := "fnCompactTexts", inPlace := ["math.Float64frombits", "math.Float64bits"], unfollowed := true, recurses := true, named := ["io.EOF", "io.ErrUnexpectedEOF", "bytes.ErrTooLarge"], apart := false, laid := [("io.EOF", laid_io_EOF), ("io.ErrUnexpectedEOF", laid_io_ErrUnexpectedEOF), ("bytes.ErrTooLarge", laid_bytes_ErrTooLarge)], narrowed := true }
def FnCompactTextsUptoSaid : Prop := fnCompactTextsUptoRow.holds Tryz.pinned (OpenSpec.upto fnCompactTextsSpec)

/-- 'laws.FnCompactMessages', WHERE WHAT IT READS IS OF BULK AT MOST 1048576: true; the input reads as it did. -/
def fnCompactMessagesUptoRow : OpenClaim := { program := "ythmkkbihfdcbiaagreatdoor", sum := "7cd06167adae160cb67d12cbe5dc1005a3cc42778034e51473644d0905e23422", func := "pub-twineward/laws.FnCompactMessages", spec := "fnCompactMessages", inPlace := ["math.Float64frombits", "math.Float64bits"], unfollowed := true, recurses := true, named := ["io.EOF", "io.ErrUnexpectedEOF", "bytes.ErrTooLarge"], apart := false, laid := [("io.EOF", laid_io_EOF), ("io.ErrUnexpectedEOF", laid_io_ErrUnexpectedEOF), ("bytes.ErrTooLarge", laid_bytes_ErrTooLarge)], narrowed := true }
def FnCompactMessagesUptoSaid : Prop := fnCompactMessagesUptoRow.holds Tryz.pinned (OpenSpec.upto fnCompactMessagesSpec)

/-- 'laws.FnCompactLists', WHERE WHAT IT READS IS OF BULK AT MOST 1048576: true; the input reads as it did. -/
def fnCompactListsUptoRow : OpenClaim := { program := "ythmkkbihfdcbiaagreatdoor", sum := "7cd06167adae160cb67d12cbe5dc1005a3cc42778034e51473644d0905e23422", func := "pub-twineward/laws.FnCompactLists", spec := "fnCompactLists", inPlace := ["math.Float64frombits", "math.Float64bits"], unfollowed := true, recurses := true, named := ["io.EOF", "io.ErrUnexpectedEOF", "bytes.ErrTooLarge"], apart := false, laid := [("io.EOF", laid_io_EOF), ("io.ErrUnexpectedEOF", laid_io_ErrUnexpectedEOF), ("bytes.ErrTooLarge", laid_bytes_ErrTooLarge)], narrowed := true }
def FnCompactListsUptoSaid : Prop := fnCompactListsUptoRow.holds Tryz.pinned (OpenSpec.upto fnCompactListsSpec)

/-- 'laws.FnCompactMaps', WHERE WHAT IT READS IS OF BULK AT MOST 1048576: true; the input reads as it did. -/
def fnCompactMapsUptoRow : OpenClaim := { program := "ythmkkbihfdcbiaagreatdoor", sum := "7cd06167adae160cb67d12cbe5dc1005a3cc42778034e51473644d0905e23422", func := "pub-twineward/laws.FnCompactMaps", spec := "fnCompactMaps", inPlace := ["math.Float64frombits", "math.Float64bits"], unfollowed := true, recurses := true, named := ["io.EOF", "io.ErrUnexpectedEOF", "bytes.ErrTooLarge"], apart := false, laid := [("io.EOF", laid_io_EOF), ("io.ErrUnexpectedEOF", laid_io_ErrUnexpectedEOF), ("bytes.ErrTooLarge", laid_bytes_ErrTooLarge)], narrowed := true }
def FnCompactMapsUptoSaid : Prop := fnCompactMapsUptoRow.holds Tryz.pinned (OpenSpec.upto fnCompactMapsSpec)

/-- 'laws.FnCompactFields', WHERE WHAT IT READS IS OF BULK AT MOST 1048576: true; the input reads as it did. -/
def fnCompactFieldsUptoRow : OpenClaim := { program := "ythmkkbihfdcbiaagreatdoor", sum := "7cd06167adae160cb67d12cbe5dc1005a3cc42778034e51473644d0905e23422", func := "pub-twineward/laws.FnCompactFields", spec := "fnCompactFields", inPlace := ["math.Float64frombits", "math.Float64bits"], unfollowed := true, recurses := true, named := ["io.EOF", "io.ErrUnexpectedEOF", "bytes.ErrTooLarge"], apart := false, laid := [("io.EOF", laid_io_EOF), ("io.ErrUnexpectedEOF", laid_io_ErrUnexpectedEOF), ("bytes.ErrTooLarge", laid_bytes_ErrTooLarge)], narrowed := true }
def FnCompactFieldsUptoSaid : Prop := fnCompactFieldsUptoRow.holds Tryz.pinned (OpenSpec.upto fnCompactFieldsSpec)

/-- 'laws.FnName', WHERE WHAT IT READS IS OF BULK AT MOST 1048576: true; the input reads as it did. -/
def fnNameUptoRow : OpenClaim := { program := "ythmkkbihfdcbiaagreatdoor", sum := "7cd06167adae160cb67d12cbe5dc1005a3cc42778034e51473644d0905e23422", func := "pub-twineward/laws.FnName", spec := "fnName", inPlace := ["math.Float64frombits", "math.Float64bits"], unfollowed := true, recurses := true, named := ["io.EOF", "io.ErrUnexpectedEOF", "bytes.ErrTooLarge"], apart := false, laid := [("io.EOF", laid_io_EOF), ("io.ErrUnexpectedEOF", laid_io_ErrUnexpectedEOF), ("bytes.ErrTooLarge", laid_bytes_ErrTooLarge)], narrowed := true }
def FnNameUptoSaid : Prop := fnNameUptoRow.holds Tryz.pinned (OpenSpec.upto fnNameSpec)

end Rows
end Go.Proofs.YthmkkbihfdcbiaaGreatDoor
