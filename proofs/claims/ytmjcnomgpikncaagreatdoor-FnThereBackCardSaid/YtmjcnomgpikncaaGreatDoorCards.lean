/-
  DERIVED. GIVEN WITH THE SEED: THE CARDS: each row of YtmjcnomgpikncaaGreatDoorRows.lean that lists a variable, with what it lists TIED to the program's text (the seventh form; the later family's looks); each row that meets fmt, with fmt's text TOLD by the authors' own Lean function (tested against real Go, not proved from fmt's source: count such statements apart). THE CARD IS WHAT COUNTS. Prove the row's statement (the work); the ties are given (YtmjcnomgpikncaaGreatDoorTie.lean); close each card by the builder's one call (the guide's Derived/Test/ToyasCard.lean, 'card_holds'). Laid BY PROGRAM, IN A SANDBOX (cutbox-door.mjs). By AI agents, Wed Nov 11 2026. No macro, syntax, notation, axiom, sorry.
-/
import Derived.Test.YtmjcnomgpikncaaGreatDoorRows
import GoSem.ClaimSeven
namespace Go.Proofs.YtmjcnomgpikncaaGreatDoor
namespace Rows

/-- THE TIED CARD OF 'laws.FnDepth'. -/
def fnDepthCard : Claim7 := { stood := { row := fnDepthRow, standIns := [], harness := (true, "2e2d0485bfcffd146c87d1633ca84ed5e9d5dbbb1e02525438312934eed33569"), looks := true }, kinds := [], alts := [], laidByText := true, laidKinds := [.sentinel, .sentinel, .sentinel], laidTests := true, laidLooks := .later }
def FnDepthCardSaid : Prop := Claim7.holds Tryz.pinned (.plain (OpenSpec.ofChange fnDepthSpec)) fnDepthCard

/-- THE TIED CARD OF 'laws.FnSkipDeep'. -/
def fnSkipDeepCard : Claim7 := { stood := { row := fnSkipDeepRow, standIns := [], harness := (true, "2e2d0485bfcffd146c87d1633ca84ed5e9d5dbbb1e02525438312934eed33569"), looks := true }, kinds := [], alts := [], laidByText := true, laidKinds := [.sentinel, .sentinel, .sentinel], laidTests := true, laidLooks := .later }
def FnSkipDeepCardSaid : Prop := Claim7.holds Tryz.pinned (.plain (OpenSpec.ofChange fnSkipDeepSpec)) fnSkipDeepCard

/-- THE TIED CARD OF 'laws.FnThereBack'. -/
def fnThereBackCard : Claim7 := { stood := { row := fnThereBackRow, standIns := [], harness := (true, "2e2d0485bfcffd146c87d1633ca84ed5e9d5dbbb1e02525438312934eed33569"), looks := true }, kinds := [], alts := [], laidByText := true, laidKinds := [.sentinel, .sentinel, .sentinel], laidTests := true, laidLooks := .later }
def FnThereBackCardSaid : Prop := Claim7.holds Tryz.pinned (.plain (OpenSpec.ofChange fnThereBackSpec)) fnThereBackCard

/-- THE TIED CARD OF 'laws.FnRow'. -/
def fnRowCard : Claim7 := { stood := { row := fnRowRow, standIns := [], harness := (true, "2e2d0485bfcffd146c87d1633ca84ed5e9d5dbbb1e02525438312934eed33569"), looks := true }, kinds := [], alts := [], laidByText := true, laidKinds := [.sentinel, .sentinel, .sentinel], laidTests := true, laidLooks := .later }
def FnRowCardSaid : Prop := Claim7.holds Tryz.pinned (.plain (OpenSpec.ofChange fnRowSpec)) fnRowCard

/-- THE TIED CARD OF 'laws.FnSteps'. -/
def fnStepsCard : Claim7 := { stood := { row := fnStepsRow, standIns := [], harness := (true, "2e2d0485bfcffd146c87d1633ca84ed5e9d5dbbb1e02525438312934eed33569"), looks := true }, kinds := [], alts := [], laidByText := true, laidKinds := [.sentinel, .sentinel, .sentinel], laidTests := true, laidLooks := .later }
def FnStepsCardSaid : Prop := Claim7.holds Tryz.pinned (.plain (OpenSpec.ofChange fnStepsSpec)) fnStepsCard

/-- THE TIED CARD OF 'laws.FnCompactFields'. -/
def fnCompactFieldsCard : Claim7 := { stood := { row := fnCompactFieldsRow, standIns := [], harness := (true, "2e2d0485bfcffd146c87d1633ca84ed5e9d5dbbb1e02525438312934eed33569"), looks := true }, kinds := [], alts := [], laidByText := true, laidKinds := [.sentinel, .sentinel, .sentinel], laidTests := true, laidLooks := .later }
def FnCompactFieldsCardSaid : Prop := Claim7.holds Tryz.pinned (.plain (OpenSpec.ofChange fnCompactFieldsSpec)) fnCompactFieldsCard

/-- THE TIED CARD OF 'laws.FnFaultBack'. -/
def fnFaultBackCard : Claim7 := { stood := { row := fnFaultBackRow, standIns := [], harness := (true, "2e2d0485bfcffd146c87d1633ca84ed5e9d5dbbb1e02525438312934eed33569"), looks := true }, kinds := [], alts := [], laidByText := true, laidKinds := [.sentinel, .sentinel, .sentinel], laidTests := true, laidLooks := .later }
def FnFaultBackCardSaid : Prop := Claim7.holds Tryz.pinned (.plain (OpenSpec.ofChange fnFaultBackSpec)) fnFaultBackCard

/-- THE TIED CARD OF 'laws.FnClientTold'. -/
def fnClientToldCard : Claim7 := { stood := { row := fnClientToldRow, standIns := [], harness := (true, "2e2d0485bfcffd146c87d1633ca84ed5e9d5dbbb1e02525438312934eed33569"), looks := true }, kinds := [], alts := [], laidByText := true, laidKinds := [.sentinel, .sentinel, .sentinel], laidTests := true, laidLooks := .later }
def FnClientToldCardSaid : Prop := Claim7.holds Tryz.pinned (.plain (OpenSpec.ofChange fnClientToldSpec)) fnClientToldCard

/-- THE TIED CARD OF 'laws.FnPiecesWhole'. -/
def fnPiecesWholeCard : Claim7 := { stood := { row := fnPiecesWholeRow, standIns := [], harness := (true, "2e2d0485bfcffd146c87d1633ca84ed5e9d5dbbb1e02525438312934eed33569"), looks := true }, kinds := [], alts := [], laidByText := true, laidKinds := [.sentinel, .sentinel, .sentinel, .sentinel], laidTests := true, laidLooks := .later }
def FnPiecesWholeCardSaid : Prop := Claim7.holds Tryz.pinned (.plain (OpenSpec.ofChange fnPiecesWholeSpec)) fnPiecesWholeCard

/-- THE SECOND FORM's CARD OF 'laws.FnDepth'. -/
def fnDepthUptoCard : Claim7 := { stood := { row := fnDepthUptoRow, standIns := [], harness := (true, "2e2d0485bfcffd146c87d1633ca84ed5e9d5dbbb1e02525438312934eed33569"), looks := true }, kinds := [], alts := [], laidByText := true, laidKinds := [.sentinel, .sentinel, .sentinel], laidTests := true, laidLooks := .later }
def FnDepthUptoCardSaid : Prop := Claim7.holds Tryz.pinned (.plain (OpenSpec.upto fnDepthSpec)) fnDepthUptoCard

/-- THE SECOND FORM's CARD OF 'laws.FnSkipDeep'. -/
def fnSkipDeepUptoCard : Claim7 := { stood := { row := fnSkipDeepUptoRow, standIns := [], harness := (true, "2e2d0485bfcffd146c87d1633ca84ed5e9d5dbbb1e02525438312934eed33569"), looks := true }, kinds := [], alts := [], laidByText := true, laidKinds := [.sentinel, .sentinel, .sentinel], laidTests := true, laidLooks := .later }
def FnSkipDeepUptoCardSaid : Prop := Claim7.holds Tryz.pinned (.plain (OpenSpec.upto fnSkipDeepSpec)) fnSkipDeepUptoCard

/-- THE SECOND FORM's CARD OF 'laws.FnThereBack'. -/
def fnThereBackUptoCard : Claim7 := { stood := { row := fnThereBackUptoRow, standIns := [], harness := (true, "2e2d0485bfcffd146c87d1633ca84ed5e9d5dbbb1e02525438312934eed33569"), looks := true }, kinds := [], alts := [], laidByText := true, laidKinds := [.sentinel, .sentinel, .sentinel], laidTests := true, laidLooks := .later }
def FnThereBackUptoCardSaid : Prop := Claim7.holds Tryz.pinned (.plain (OpenSpec.upto fnThereBackSpec)) fnThereBackUptoCard

/-- THE SECOND FORM's CARD OF 'laws.FnRow'. -/
def fnRowUptoCard : Claim7 := { stood := { row := fnRowUptoRow, standIns := [], harness := (true, "2e2d0485bfcffd146c87d1633ca84ed5e9d5dbbb1e02525438312934eed33569"), looks := true }, kinds := [], alts := [], laidByText := true, laidKinds := [.sentinel, .sentinel, .sentinel], laidTests := true, laidLooks := .later }
def FnRowUptoCardSaid : Prop := Claim7.holds Tryz.pinned (.plain (OpenSpec.upto fnRowSpec)) fnRowUptoCard

/-- THE SECOND FORM's CARD OF 'laws.FnSteps'. -/
def fnStepsUptoCard : Claim7 := { stood := { row := fnStepsUptoRow, standIns := [], harness := (true, "2e2d0485bfcffd146c87d1633ca84ed5e9d5dbbb1e02525438312934eed33569"), looks := true }, kinds := [], alts := [], laidByText := true, laidKinds := [.sentinel, .sentinel, .sentinel], laidTests := true, laidLooks := .later }
def FnStepsUptoCardSaid : Prop := Claim7.holds Tryz.pinned (.plain (OpenSpec.upto fnStepsSpec)) fnStepsUptoCard

/-- THE SECOND FORM's CARD OF 'laws.FnCompactFields'. -/
def fnCompactFieldsUptoCard : Claim7 := { stood := { row := fnCompactFieldsUptoRow, standIns := [], harness := (true, "2e2d0485bfcffd146c87d1633ca84ed5e9d5dbbb1e02525438312934eed33569"), looks := true }, kinds := [], alts := [], laidByText := true, laidKinds := [.sentinel, .sentinel, .sentinel], laidTests := true, laidLooks := .later }
def FnCompactFieldsUptoCardSaid : Prop := Claim7.holds Tryz.pinned (.plain (OpenSpec.upto fnCompactFieldsSpec)) fnCompactFieldsUptoCard

/-- THE SECOND FORM's CARD OF 'laws.FnFaultBack'. -/
def fnFaultBackUptoCard : Claim7 := { stood := { row := fnFaultBackUptoRow, standIns := [], harness := (true, "2e2d0485bfcffd146c87d1633ca84ed5e9d5dbbb1e02525438312934eed33569"), looks := true }, kinds := [], alts := [], laidByText := true, laidKinds := [.sentinel, .sentinel, .sentinel], laidTests := true, laidLooks := .later }
def FnFaultBackUptoCardSaid : Prop := Claim7.holds Tryz.pinned (.plain (OpenSpec.upto fnFaultBackSpec)) fnFaultBackUptoCard

/-- THE SECOND FORM's CARD OF 'laws.FnClientTold'. -/
def fnClientToldUptoCard : Claim7 := { stood := { row := fnClientToldUptoRow, standIns := [], harness := (true, "2e2d0485bfcffd146c87d1633ca84ed5e9d5dbbb1e02525438312934eed33569"), looks := true }, kinds := [], alts := [], laidByText := true, laidKinds := [.sentinel, .sentinel, .sentinel], laidTests := true, laidLooks := .later }
def FnClientToldUptoCardSaid : Prop := Claim7.holds Tryz.pinned (.plain (OpenSpec.upto fnClientToldSpec)) fnClientToldUptoCard

/-- THE SECOND FORM's CARD OF 'laws.FnPiecesWhole'. -/
def fnPiecesWholeUptoCard : Claim7 := { stood := { row := fnPiecesWholeUptoRow, standIns := [], harness := (true, "2e2d0485bfcffd146c87d1633ca84ed5e9d5dbbb1e02525438312934eed33569"), looks := true }, kinds := [], alts := [], laidByText := true, laidKinds := [.sentinel, .sentinel, .sentinel, .sentinel], laidTests := true, laidLooks := .later }
def FnPiecesWholeUptoCardSaid : Prop := Claim7.holds Tryz.pinned (.plain (OpenSpec.upto fnPiecesWholeSpec)) fnPiecesWholeUptoCard
end Rows
end Go.Proofs.YtmjcnomgpikncaaGreatDoor
