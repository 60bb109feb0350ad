/-
  NARROWER THAN 'FOR EVERY INPUT', by the rows' own cells (each row's printed sentence says how): FnLeastHolds: loops, laid · FnNoneBegins: loops, laid · FnMessageParts: loops, laid · FnClientSends: loops, laid · FnUnordered: laid.
  DERIVED. THE GIVEN ROWS OF THIS SEAT. 5 by the template 'for every input the law returns true; each argument reads behind the call as it read before'; 0 by the template 'total and deterministic' (their statements: YtnpiheoglilcbaaGreatDoorTotals.lean).
  GIVEN WITH THE SEED: the statements are not yours to turn. If you find one false, say at which input.
  Laid BY PROGRAM, IN A SANDBOX (cutbox-rows.mjs): the forced cells as the released guide's own fill.sh prints them over the translation 414b8bdd82565eb9… (all of the seat's roots in one cut). By AI agents, Wed Nov 11 2026. No macro, syntax, notation, axiom, sorry.
-/
import Derived.Test.YtnpiheoglilcbaaGreatDoorChecked
import GoSem.Claim
import GoSem.ClaimJoined
import GoSem.ClaimMapViews
import Derived.JoinedTies
import Derived.KernelRfl
namespace Go.Proofs.YtnpiheoglilcbaaGreatDoor
/- THE CELL 'sum', in the pinned program and in every row, IS THE sha256 OF THE DUMP (.gsa) THAT YtnpiheoglilcbaaGreatDoorProg.lean LOADS. Nothing in Lean hashes anything: it is a label: what it is worth is what the hold of that sum in a sandbox is worth. -/
noncomputable def Tryz.pinned : Pinned := { name := "ytnpiheoglilcbaagreatdoor", sum := "414b8bdd82565eb92509dbe13b8471f063387eaa290411178562f4e2a3448103", checked := Tryz.checked }
namespace Rows
def none {H : Type} : Left H := { results := [], args := [] }

/- WHAT THE LISTED PACKAGE-LEVEL VARIABLES READ AS WHEN THE CALL BEGINS. Each datum BY PROGRAM (the guide's laid-datum.mjs) off the statement by which the dump's own 'gosem.cut.vars' lays the variable. In a bare row this is a premise. The card (YtnpiheoglilcbaaGreatDoorCards.lean) ties it to the program's text. -/
def laid_io_EOF {H : Type} : DataW H := .iface "*errors.errorString" (.ptr (.agg [.lit (.string [69, 79, 70])]))
def laid_io_ErrUnexpectedEOF {H : Type} : DataW H := .iface "*errors.errorString" (.ptr (.agg [.lit (.string [117, 110, 101, 120, 112, 101, 99, 116, 101, 100, 32, 69, 79, 70])]))
def laid_bytes_ErrTooLarge {H : Type} : DataW H := .iface "*errors.errorString" (.ptr (.agg [.lit (.string [98, 121, 116, 101, 115, 46, 66, 117, 102, 102, 101, 114, 58, 32, 116, 111, 111, 32, 108, 97, 114, 103, 101])]))

/-- 'laws.FnLeastHolds': WHATEVER THE INPUT: true; the input reads as it did. -/
def fnLeastHoldsSpec : ChangeSpec := { name := "fnLeastHolds", fn := fun _ => fun
  | [d1, d2] => { results := [.lit (.bool true)], args := [d1, d2] }
  | _ => none }
def fnLeastHoldsRow : OpenClaim := { program := "ytnpiheoglilcbaagreatdoor", sum := "414b8bdd82565eb92509dbe13b8471f063387eaa290411178562f4e2a3448103", func := "pub-twineward/laws.FnLeastHolds", spec := "fnLeastHolds", inPlace := ["math.Float64frombits", "math.Float64bits"], unfollowed := true, recurses := true, named := ["io.EOF", "io.ErrUnexpectedEOF", "bytes.ErrTooLarge"], loops := true, apart := false, laid := [("io.EOF", laid_io_EOF), ("io.ErrUnexpectedEOF", laid_io_ErrUnexpectedEOF), ("bytes.ErrTooLarge", laid_bytes_ErrTooLarge)] }
def FnLeastHoldsSaid : Prop := fnLeastHoldsRow.holds Tryz.pinned (OpenSpec.ofChange fnLeastHoldsSpec)

/-- ITS FALSE NEIGHBOUR: 'it returns false'. Refute it at one input. -/
def fnLeastHoldsWrong : ChangeSpec := { name := "fnLeastHolds", fn := fun _ => fun
  | [d1, d2] => { results := [.lit (.bool false)], args := [d1, d2] }
  | _ => none }
def FnLeastHoldsWrongFalsely : Prop := fnLeastHoldsRow.holds Tryz.pinned (OpenSpec.ofChange fnLeastHoldsWrong)

/-- 'laws.FnNoneBegins': WHATEVER THE INPUT: true; the input reads as it did. -/
def fnNoneBeginsSpec : ChangeSpec := { name := "fnNoneBegins", fn := fun _ => fun
  | [d1, d2, d3] => { results := [.lit (.bool true)], args := [d1, d2, d3] }
  | _ => none }
def fnNoneBeginsRow : OpenClaim := { program := "ytnpiheoglilcbaagreatdoor", sum := "414b8bdd82565eb92509dbe13b8471f063387eaa290411178562f4e2a3448103", func := "pub-twineward/laws.FnNoneBegins", spec := "fnNoneBegins", inPlace := ["math.Float64frombits", "math.Float64bits"], unfollowed := true, recurses := true, named := ["io.EOF", "io.ErrUnexpectedEOF", "bytes.ErrTooLarge"], loops := true, apart := false, laid := [("io.EOF", laid_io_EOF), ("io.ErrUnexpectedEOF", laid_io_ErrUnexpectedEOF), ("bytes.ErrTooLarge", laid_bytes_ErrTooLarge)] }
def FnNoneBeginsSaid : Prop := fnNoneBeginsRow.holds Tryz.pinned (OpenSpec.ofChange fnNoneBeginsSpec)

/-- ITS FALSE NEIGHBOUR: 'it returns false'. Refute it at one input. -/
def fnNoneBeginsWrong : ChangeSpec := { name := "fnNoneBegins", fn := fun _ => fun
  | [d1, d2, d3] => { results := [.lit (.bool false)], args := [d1, d2, d3] }
  | _ => none }
def FnNoneBeginsWrongFalsely : Prop := fnNoneBeginsRow.holds Tryz.pinned (OpenSpec.ofChange fnNoneBeginsWrong)

/-- 'laws.FnMessageParts': WHATEVER THE INPUT: true; the input reads as it did. -/
def fnMessagePartsSpec : ChangeSpec := { name := "fnMessageParts", fn := fun _ => fun
  | [d1, d2, d3, d4, d5] => { results := [.lit (.bool true)], args := [d1, d2, d3, d4, d5] }
  | _ => none }
def fnMessagePartsRow : OpenClaim := { program := "ytnpiheoglilcbaagreatdoor", sum := "414b8bdd82565eb92509dbe13b8471f063387eaa290411178562f4e2a3448103", func := "pub-twineward/laws.FnMessageParts", spec := "fnMessageParts", inPlace := ["math.Float64frombits", "math.Float64bits"], unfollowed := true, recurses := true, named := ["io.EOF", "io.ErrUnexpectedEOF", "bytes.ErrTooLarge"], loops := true, apart := false, laid := [("io.EOF", laid_io_EOF), ("io.ErrUnexpectedEOF", laid_io_ErrUnexpectedEOF), ("bytes.ErrTooLarge", laid_bytes_ErrTooLarge)] }
def FnMessagePartsSaid : Prop := fnMessagePartsRow.holds Tryz.pinned (OpenSpec.ofChange fnMessagePartsSpec)

/-- ITS FALSE NEIGHBOUR: 'it returns false'. Refute it at one input. -/
def fnMessagePartsWrong : ChangeSpec := { name := "fnMessageParts", fn := fun _ => fun
  | [d1, d2, d3, d4, d5] => { results := [.lit (.bool false)], args := [d1, d2, d3, d4, d5] }
  | _ => none }
def FnMessagePartsWrongFalsely : Prop := fnMessagePartsRow.holds Tryz.pinned (OpenSpec.ofChange fnMessagePartsWrong)

/-- 'laws.FnClientSends': WHATEVER THE INPUT: true; the input reads as it did. -/
def fnClientSendsSpec : ChangeSpec := { name := "fnClientSends", fn := fun _ => fun
  | [d1, d2, d3, d4] => { results := [.lit (.bool true)], args := [d1, d2, d3, d4] }
  | _ => none }
def fnClientSendsRow : OpenClaim := { program := "ytnpiheoglilcbaagreatdoor", sum := "414b8bdd82565eb92509dbe13b8471f063387eaa290411178562f4e2a3448103", func := "pub-twineward/laws.FnClientSends", spec := "fnClientSends", inPlace := ["math.Float64frombits", "math.Float64bits"], unfollowed := true, recurses := true, named := ["io.EOF", "io.ErrUnexpectedEOF", "bytes.ErrTooLarge"], loops := true, apart := false, laid := [("io.EOF", laid_io_EOF), ("io.ErrUnexpectedEOF", laid_io_ErrUnexpectedEOF), ("bytes.ErrTooLarge", laid_bytes_ErrTooLarge)] }
def FnClientSendsSaid : Prop := fnClientSendsRow.holds Tryz.pinned (OpenSpec.ofChange fnClientSendsSpec)

/-- ITS FALSE NEIGHBOUR: 'it returns false'. Refute it at one input. -/
def fnClientSendsWrong : ChangeSpec := { name := "fnClientSends", fn := fun _ => fun
  | [d1, d2, d3, d4] => { results := [.lit (.bool false)], args := [d1, d2, d3, d4] }
  | _ => none }
def FnClientSendsWrongFalsely : Prop := fnClientSendsRow.holds Tryz.pinned (OpenSpec.ofChange fnClientSendsWrong)

/-- 'laws.FnUnordered': WHATEVER THE INPUT: true; the input reads as it did. -/
def fnUnorderedSpec : ChangeSpec := { name := "fnUnordered", fn := fun _ => fun
  | [d1, d2, d3] => { results := [.lit (.bool true)], args := [d1, d2, d3] }
  | _ => none }
def fnUnorderedRow : OpenClaim := { program := "ytnpiheoglilcbaagreatdoor", sum := "414b8bdd82565eb92509dbe13b8471f063387eaa290411178562f4e2a3448103", func := "pub-twineward/laws.FnUnordered", spec := "fnUnordered", inPlace := ["math.Float64frombits", "math.Float64bits"], unfollowed := true, recurses := true, named := ["io.EOF", "io.ErrUnexpectedEOF", "bytes.ErrTooLarge"], apart := false, laid := [("io.EOF", laid_io_EOF), ("io.ErrUnexpectedEOF", laid_io_ErrUnexpectedEOF), ("bytes.ErrTooLarge", laid_bytes_ErrTooLarge)] }
def FnUnorderedSaid : Prop := fnUnorderedRow.holds Tryz.pinned (OpenSpec.ofChange fnUnorderedSpec)

/-- ITS FALSE NEIGHBOUR: 'it returns false'. Refute it at one input. -/
def fnUnorderedWrong : ChangeSpec := { name := "fnUnordered", fn := fun _ => fun
  | [d1, d2, d3] => { results := [.lit (.bool false)], args := [d1, d2, d3] }
  | _ => none }
def FnUnorderedWrongFalsely : Prop := fnUnorderedRow.holds Tryz.pinned (OpenSpec.ofChange fnUnorderedWrong)

/- THE SECOND FORM. 'bulk': how many values and letters a reading holds, each counted each time it is reached (what is shared counts as often as it is met; a slice's spare places count too). A statement '..UptoSaid' is the law's where the arguments, and the package variables that the reading takes, are together of bulk at most 1048576: NARROWER than '..Said'. Prove '..Said' where nothing that the law and all that it calls make is longer than what came in: it says more and counts as full. Else prove '..UptoSaid'. A law counts once. -/
mutual
def uptoBulk {H : Type} : DataW H → Nat
  | .lit (.string bytes) => bytes.length + 1
  | .lit _ => 1
  | .nil => 1
  | .ptr d => uptoBulk d + 1
  | .slice elems spare => uptoBulkAll elems + uptoBulkAll spare + 1
  | .agg parts => uptoBulkAll parts + 1
  | .iface _ d => uptoBulk d + 1
  | .map entries => uptoBulkEntries entries + 1
  | .held _ => 1
def uptoBulkAll {H : Type} : List (DataW H) → Nat
  | [] => 0
  | d :: r => uptoBulk d + uptoBulkAll r
def uptoBulkEntries {H : Type} : List (Lit × DataW H) → Nat
  | [] => 0
  | x :: r => uptoBulkEntry x + uptoBulkEntries r
def uptoBulkEntry {H : Type} : Lit × DataW H → Nat
  | (.string bytes, d) => bytes.length + uptoBulk d + 1
  | (_, d) => uptoBulk d + 1
 end
def uptoSmall : (H : Type) → List (DataW H) → Bool := fun _ ds => decide (uptoBulkAll ds ≤ 1048576)
def OpenSpec.upto (s : _root_.Go.ChangeSpec) : _root_.Go.OpenSpec := { _root_.Go.OpenSpec.ofChange s with cond := some uptoSmall }

/-- 'laws.FnLeastHolds', WHERE WHAT IT READS IS OF BULK AT MOST 1048576: true; the input reads as it did. -/
def fnLeastHoldsUptoRow : OpenClaim := { program := "ytnpiheoglilcbaagreatdoor", sum := "414b8bdd82565eb92509dbe13b8471f063387eaa290411178562f4e2a3448103", func := "pub-twineward/laws.FnLeastHolds", spec := "fnLeastHolds", inPlace := ["math.Float64frombits", "math.Float64bits"], unfollowed := true, recurses := true, named := ["io.EOF", "io.ErrUnexpectedEOF", "bytes.ErrTooLarge"], loops := true, apart := false, laid := [("io.EOF", laid_io_EOF), ("io.ErrUnexpectedEOF", laid_io_ErrUnexpectedEOF), ("bytes.ErrTooLarge", laid_bytes_ErrTooLarge)], narrowed := true }
def FnLeastHoldsUptoSaid : Prop := fnLeastHoldsUptoRow.holds Tryz.pinned (OpenSpec.upto fnLeastHoldsSpec)

/-- 'laws.FnNoneBegins', WHERE WHAT IT READS IS OF BULK AT MOST 1048576: true; the input reads as it did. -/
def fnNoneBeginsUptoRow : OpenClaim := { program := "ytnpiheoglilcbaagreatdoor", sum := "414b8bdd82565eb92509dbe13b8471f063387eaa290411178562f4e2a3448103", func := "pub-twineward/laws.FnNoneBegins", spec := "fnNoneBegins", inPlace := ["math.Float64frombits", "math.Float64bits"], unfollowed := true, recurses := true, named := ["io.EOF", "io.ErrUnexpectedEOF", "bytes.ErrTooLarge"], loops := true, apart := false, laid := [("io.EOF", laid_io_EOF), ("io.ErrUnexpectedEOF", laid_io_ErrUnexpectedEOF), ("bytes.ErrTooLarge", laid_bytes_ErrTooLarge)], narrowed := true }
def FnNoneBeginsUptoSaid : Prop := fnNoneBeginsUptoRow.holds Tryz.pinned (OpenSpec.upto fnNoneBeginsSpec)

/-- 'laws.FnMessageParts', WHERE WHAT IT READS IS OF BULK AT MOST 1048576: true; the input reads as it did. -/
def fnMessagePartsUptoRow : OpenClaim := { program := "ytnpiheoglilcbaagreatdoor", sum := "414b8bdd82565eb92509dbe13b8471f063387eaa290411178562f4e2a3448103", func := "pub-twineward/laws.FnMessageParts", spec := "fnMessageParts", inPlace := ["math.Float64frombits", "math.Float64bits"], unfollowed := true, recurses := true, named := ["io.EOF", "io.ErrUnexpectedEOF", "bytes.ErrTooLarge"], loops := true, apart := false, laid := [("io.EOF", laid_io_EOF), ("io.ErrUnexpectedEOF", laid_io_ErrUnexpectedEOF), ("bytes.ErrTooLarge", laid_bytes_ErrTooLarge)], narrowed := true }
def FnMessagePartsUptoSaid : Prop := fnMessagePartsUptoRow.holds Tryz.pinned (OpenSpec.upto fnMessagePartsSpec)

/-- 'laws.FnClientSends', WHERE WHAT IT READS IS OF BULK AT MOST 1048576: true; the input reads as it did. -/
def fnClientSendsUptoRow : OpenClaim := { program := "ytnpiheoglilcbaagreatdoor", sum := "414b8bdd82565eb92509dbe13b8471f063387eaa290411178562f4e2a3448103", func := "pub-twineward/laws.FnClientSends", spec := "fnClientSends", inPlace := ["math.Float64frombits", "math.Float64bits"], unfollowed := true, recurses := true, named := ["io.EOF", "io.ErrUnexpectedEOF", "bytes.ErrTooLarge"], loops := true, apart := false, laid := [("io.EOF", laid_io_EOF), ("io.ErrUnexpectedEOF", laid_io_ErrUnexpectedEOF), ("bytes.ErrTooLarge", laid_bytes_ErrTooLarge)], narrowed := true }
def FnClientSendsUptoSaid : Prop := fnClientSendsUptoRow.holds Tryz.pinned (OpenSpec.upto fnClientSendsSpec)

/-- 'laws.FnUnordered', WHERE WHAT IT READS IS OF BULK AT MOST 1048576: true; the input reads as it did. -/
def fnUnorderedUptoRow : OpenClaim := { program := "ytnpiheoglilcbaagreatdoor", sum := "414b8bdd82565eb92509dbe13b8471f063387eaa290411178562f4e2a3448103", func := "pub-twineward/laws.FnUnordered", spec := "fnUnordered", inPlace := ["math.Float64frombits", "math.Float64bits"], unfollowed := true, recurses := true, named := ["io.EOF", "io.ErrUnexpectedEOF", "bytes.ErrTooLarge"], apart := false, laid := [("io.EOF", laid_io_EOF), ("io.ErrUnexpectedEOF", laid_io_ErrUnexpectedEOF), ("bytes.ErrTooLarge", laid_bytes_ErrTooLarge)], narrowed := true }
def FnUnorderedUptoSaid : Prop := fnUnorderedUptoRow.holds Tryz.pinned (OpenSpec.upto fnUnorderedSpec)

end Rows
end Go.Proofs.YtnpiheoglilcbaaGreatDoor
