/-
  DERIVED. GIVEN WITH THE SEED: THE CARDS: each row of YteadkokfepjgbaaGreatDoorRows.lean that lists a variable, with what it lists TIED to the program's text (the seventh form; the later family's looks); each row that meets fmt, with fmt's text TOLD by the authors' own Lean function (tested against real Go, not proved from fmt's source: count such statements apart). THE CARD IS WHAT COUNTS. Prove the row's statement (the work); the ties are given (YteadkokfepjgbaaGreatDoorTie.lean); close each card by the builder's one call (the guide's Derived/Test/ToyasCard.lean, 'card_holds'). Laid BY PROGRAM, IN A SANDBOX (cutbox-door.mjs). By AI agents, Wed Nov 11 2026. No macro, syntax, notation, axiom, sorry.
-/
import Derived.Test.YteadkokfepjgbaaGreatDoorRows
import GoSem.ClaimSeven
namespace Go.Proofs.YteadkokfepjgbaaGreatDoor
namespace Rows

/-- THE TIED CARD OF 'laws.FnZigzag'. -/
def fnZigzagCard : Claim7 := { stood := { row := fnZigzagRow, standIns := [], harness := (true, "f39939a4e7ed65929aa5cc4606bae6508962706ce6fd5fea05eccfa350d6363b"), looks := true }, kinds := [], alts := [], laidByText := true, laidKinds := [.sentinel, .sentinel, .sentinel], laidTests := true, laidLooks := .later }
def FnZigzagCardSaid : Prop := Claim7.holds Tryz.pinned (.plain (OpenSpec.ofChange fnZigzagSpec)) fnZigzagCard

/-- THE TIED CARD OF 'laws.FnZigzagBack'. -/
def fnZigzagBackCard : Claim7 := { stood := { row := fnZigzagBackRow, standIns := [], harness := (true, "f39939a4e7ed65929aa5cc4606bae6508962706ce6fd5fea05eccfa350d6363b"), looks := true }, kinds := [], alts := [], laidByText := true, laidKinds := [.sentinel, .sentinel, .sentinel], laidTests := true, laidLooks := .later }
def FnZigzagBackCardSaid : Prop := Claim7.holds Tryz.pinned (.plain (OpenSpec.ofChange fnZigzagBackSpec)) fnZigzagBackCard

/-- THE TIED CARD OF 'laws.FnPrealloc'. -/
def fnPreallocCard : Claim7 := { stood := { row := fnPreallocRow, standIns := [], harness := (true, "f39939a4e7ed65929aa5cc4606bae6508962706ce6fd5fea05eccfa350d6363b"), looks := true }, kinds := [], alts := [], laidByText := true, laidKinds := [.sentinel, .sentinel, .sentinel], laidTests := true, laidLooks := .later }
def FnPreallocCardSaid : Prop := Claim7.holds Tryz.pinned (.plain (OpenSpec.ofChange fnPreallocSpec)) fnPreallocCard

/-- THE TIED CARD OF 'laws.FnFault'. -/
def fnFaultCard : Claim7 := { stood := { row := fnFaultRow, standIns := [], harness := (true, "f39939a4e7ed65929aa5cc4606bae6508962706ce6fd5fea05eccfa350d6363b"), looks := true }, kinds := [], alts := [], laidByText := true, laidKinds := [.sentinel, .sentinel, .sentinel], laidTests := true, laidLooks := .later }
def FnFaultCardSaid : Prop := Claim7.holds Tryz.pinned (.plain (OpenSpec.ofChange fnFaultSpec)) fnFaultCard

/-- THE TIED CARD OF 'laws.FnUuidText'. -/
def fnUuidTextCard : Claim7 := { stood := { row := fnUuidTextRow, standIns := [], harness := (true, "f39939a4e7ed65929aa5cc4606bae6508962706ce6fd5fea05eccfa350d6363b"), looks := true }, kinds := [], alts := [], laidByText := true, laidKinds := [.sentinel, .sentinel, .sentinel], laidTests := true, laidLooks := .later }
def FnUuidTextCardSaid : Prop := Claim7.holds Tryz.pinned (.plain (OpenSpec.ofChange fnUuidTextSpec)) fnUuidTextCard

/-- THE TIED CARD OF 'laws.FnUnordered'. -/
def fnUnorderedCard : Claim7 := { stood := { row := fnUnorderedRow, standIns := [], harness := (true, "f39939a4e7ed65929aa5cc4606bae6508962706ce6fd5fea05eccfa350d6363b"), looks := true }, kinds := [], alts := [], laidByText := true, laidKinds := [.sentinel, .sentinel, .sentinel], laidTests := true, laidLooks := .later }
def FnUnorderedCardSaid : Prop := Claim7.holds Tryz.pinned (.plain (OpenSpec.ofChange fnUnorderedSpec)) fnUnorderedCard

/-- THE TIED CARD OF 'laws.FnLimitsHold'. -/
def fnLimitsHoldCard : Claim7 := { stood := { row := fnLimitsHoldRow, standIns := [], harness := (true, "f39939a4e7ed65929aa5cc4606bae6508962706ce6fd5fea05eccfa350d6363b"), looks := true }, kinds := [], alts := [], laidByText := true, laidKinds := [.sentinel, .sentinel, .sentinel], laidTests := true, laidLooks := .later }
def FnLimitsHoldCardSaid : Prop := Claim7.holds Tryz.pinned (.plain (OpenSpec.ofChange fnLimitsHoldSpec)) fnLimitsHoldCard

/-- THE TIED CARD OF 'laws.FnUnvarint'. -/
def fnUnvarintCard : Claim7 := { stood := { row := fnUnvarintRow, standIns := [], harness := (true, "f39939a4e7ed65929aa5cc4606bae6508962706ce6fd5fea05eccfa350d6363b"), looks := true }, kinds := [], alts := [], laidByText := true, laidKinds := [.sentinel, .sentinel, .sentinel], laidTests := true, laidLooks := .later }
def FnUnvarintCardSaid : Prop := Claim7.holds Tryz.pinned (.plain (OpenSpec.ofChange fnUnvarintSpec)) fnUnvarintCard

/-- THE TIED CARD OF 'laws.FnPiecesWhole'. -/
def fnPiecesWholeCard : Claim7 := { stood := { row := fnPiecesWholeRow, standIns := [], harness := (true, "f39939a4e7ed65929aa5cc4606bae6508962706ce6fd5fea05eccfa350d6363b"), looks := true }, kinds := [], alts := [], laidByText := true, laidKinds := [.sentinel, .sentinel, .sentinel, .sentinel], laidTests := true, laidLooks := .later }
def FnPiecesWholeCardSaid : Prop := Claim7.holds Tryz.pinned (.plain (OpenSpec.ofChange fnPiecesWholeSpec)) fnPiecesWholeCard

/-- THE SECOND FORM's CARD OF 'laws.FnZigzag'. -/
def fnZigzagUptoCard : Claim7 := { stood := { row := fnZigzagUptoRow, standIns := [], harness := (true, "f39939a4e7ed65929aa5cc4606bae6508962706ce6fd5fea05eccfa350d6363b"), looks := true }, kinds := [], alts := [], laidByText := true, laidKinds := [.sentinel, .sentinel, .sentinel], laidTests := true, laidLooks := .later }
def FnZigzagUptoCardSaid : Prop := Claim7.holds Tryz.pinned (.plain (OpenSpec.upto fnZigzagSpec)) fnZigzagUptoCard

/-- THE SECOND FORM's CARD OF 'laws.FnZigzagBack'. -/
def fnZigzagBackUptoCard : Claim7 := { stood := { row := fnZigzagBackUptoRow, standIns := [], harness := (true, "f39939a4e7ed65929aa5cc4606bae6508962706ce6fd5fea05eccfa350d6363b"), looks := true }, kinds := [], alts := [], laidByText := true, laidKinds := [.sentinel, .sentinel, .sentinel], laidTests := true, laidLooks := .later }
def FnZigzagBackUptoCardSaid : Prop := Claim7.holds Tryz.pinned (.plain (OpenSpec.upto fnZigzagBackSpec)) fnZigzagBackUptoCard

/-- THE SECOND FORM's CARD OF 'laws.FnPrealloc'. -/
def fnPreallocUptoCard : Claim7 := { stood := { row := fnPreallocUptoRow, standIns := [], harness := (true, "f39939a4e7ed65929aa5cc4606bae6508962706ce6fd5fea05eccfa350d6363b"), looks := true }, kinds := [], alts := [], laidByText := true, laidKinds := [.sentinel, .sentinel, .sentinel], laidTests := true, laidLooks := .later }
def FnPreallocUptoCardSaid : Prop := Claim7.holds Tryz.pinned (.plain (OpenSpec.upto fnPreallocSpec)) fnPreallocUptoCard

/-- THE SECOND FORM's CARD OF 'laws.FnFault'. -/
def fnFaultUptoCard : Claim7 := { stood := { row := fnFaultUptoRow, standIns := [], harness := (true, "f39939a4e7ed65929aa5cc4606bae6508962706ce6fd5fea05eccfa350d6363b"), looks := true }, kinds := [], alts := [], laidByText := true, laidKinds := [.sentinel, .sentinel, .sentinel], laidTests := true, laidLooks := .later }
def FnFaultUptoCardSaid : Prop := Claim7.holds Tryz.pinned (.plain (OpenSpec.upto fnFaultSpec)) fnFaultUptoCard

/-- THE SECOND FORM's CARD OF 'laws.FnUuidText'. -/
def fnUuidTextUptoCard : Claim7 := { stood := { row := fnUuidTextUptoRow, standIns := [], harness := (true, "f39939a4e7ed65929aa5cc4606bae6508962706ce6fd5fea05eccfa350d6363b"), looks := true }, kinds := [], alts := [], laidByText := true, laidKinds := [.sentinel, .sentinel, .sentinel], laidTests := true, laidLooks := .later }
def FnUuidTextUptoCardSaid : Prop := Claim7.holds Tryz.pinned (.plain (OpenSpec.upto fnUuidTextSpec)) fnUuidTextUptoCard

/-- THE SECOND FORM's CARD OF 'laws.FnUnordered'. -/
def fnUnorderedUptoCard : Claim7 := { stood := { row := fnUnorderedUptoRow, standIns := [], harness := (true, "f39939a4e7ed65929aa5cc4606bae6508962706ce6fd5fea05eccfa350d6363b"), looks := true }, kinds := [], alts := [], laidByText := true, laidKinds := [.sentinel, .sentinel, .sentinel], laidTests := true, laidLooks := .later }
def FnUnorderedUptoCardSaid : Prop := Claim7.holds Tryz.pinned (.plain (OpenSpec.upto fnUnorderedSpec)) fnUnorderedUptoCard

/-- THE SECOND FORM's CARD OF 'laws.FnLimitsHold'. -/
def fnLimitsHoldUptoCard : Claim7 := { stood := { row := fnLimitsHoldUptoRow, standIns := [], harness := (true, "f39939a4e7ed65929aa5cc4606bae6508962706ce6fd5fea05eccfa350d6363b"), looks := true }, kinds := [], alts := [], laidByText := true, laidKinds := [.sentinel, .sentinel, .sentinel], laidTests := true, laidLooks := .later }
def FnLimitsHoldUptoCardSaid : Prop := Claim7.holds Tryz.pinned (.plain (OpenSpec.upto fnLimitsHoldSpec)) fnLimitsHoldUptoCard

/-- THE SECOND FORM's CARD OF 'laws.FnUnvarint'. -/
def fnUnvarintUptoCard : Claim7 := { stood := { row := fnUnvarintUptoRow, standIns := [], harness := (true, "f39939a4e7ed65929aa5cc4606bae6508962706ce6fd5fea05eccfa350d6363b"), looks := true }, kinds := [], alts := [], laidByText := true, laidKinds := [.sentinel, .sentinel, .sentinel], laidTests := true, laidLooks := .later }
def FnUnvarintUptoCardSaid : Prop := Claim7.holds Tryz.pinned (.plain (OpenSpec.upto fnUnvarintSpec)) fnUnvarintUptoCard

/-- THE SECOND FORM's CARD OF 'laws.FnPiecesWhole'. -/
def fnPiecesWholeUptoCard : Claim7 := { stood := { row := fnPiecesWholeUptoRow, standIns := [], harness := (true, "f39939a4e7ed65929aa5cc4606bae6508962706ce6fd5fea05eccfa350d6363b"), looks := true }, kinds := [], alts := [], laidByText := true, laidKinds := [.sentinel, .sentinel, .sentinel, .sentinel], laidTests := true, laidLooks := .later }
def FnPiecesWholeUptoCardSaid : Prop := Claim7.holds Tryz.pinned (.plain (OpenSpec.upto fnPiecesWholeSpec)) fnPiecesWholeUptoCard
end Rows
end Go.Proofs.YteadkokfepjgbaaGreatDoor
