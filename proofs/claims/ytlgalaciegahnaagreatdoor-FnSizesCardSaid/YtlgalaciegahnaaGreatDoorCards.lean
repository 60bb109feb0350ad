/-
  DERIVED. GIVEN WITH THE SEED: THE CARDS: each row of YtlgalaciegahnaaGreatDoorRows.lean that lists a variable, with what it lists TIED to the program's text (the seventh form; the later family's looks); each row that meets fmt, with fmt's text TOLD by the authors' own Lean function (tested against real Go, not proved from fmt's source: count such statements apart). THE CARD IS WHAT COUNTS. Prove the row's statement (the work); the ties are given (YtlgalaciegahnaaGreatDoorTie.lean); close each card by the builder's one call (the guide's Derived/Test/ToyasCard.lean, 'card_holds'). Laid BY PROGRAM, IN A SANDBOX (cutbox-door.mjs). By AI agents, Wed Nov 11 2026. No macro, syntax, notation, axiom, sorry.
-/
import Derived.Test.YtlgalaciegahnaaGreatDoorRows
import GoSem.ClaimSeven
namespace Go.Proofs.YtlgalaciegahnaaGreatDoor
namespace Rows

/-- THE TIED CARD OF 'laws.FnSizes'. -/
def fnSizesCard : Claim7 := { stood := { row := fnSizesRow, standIns := [], harness := (true, "068529dfeab07483f27957329afb3a8b1f0952aee8c2335741eef98e99cdeb69"), looks := true }, kinds := [], alts := [], laidByText := true, laidKinds := [.sentinel, .sentinel, .sentinel], laidTests := true, laidLooks := .later }
def FnSizesCardSaid : Prop := Claim7.holds Tryz.pinned (.plain (OpenSpec.ofChange fnSizesSpec)) fnSizesCard

/-- THE TIED CARD OF 'laws.FnMessageParts'. -/
def fnMessagePartsCard : Claim7 := { stood := { row := fnMessagePartsRow, standIns := [], harness := (true, "068529dfeab07483f27957329afb3a8b1f0952aee8c2335741eef98e99cdeb69"), looks := true }, kinds := [], alts := [], laidByText := true, laidKinds := [.sentinel, .sentinel, .sentinel], laidTests := true, laidLooks := .later }
def FnMessagePartsCardSaid : Prop := Claim7.holds Tryz.pinned (.plain (OpenSpec.ofChange fnMessagePartsSpec)) fnMessagePartsCard

/-- THE TIED CARD OF 'laws.FnClientSends'. -/
def fnClientSendsCard : Claim7 := { stood := { row := fnClientSendsRow, standIns := [], harness := (true, "068529dfeab07483f27957329afb3a8b1f0952aee8c2335741eef98e99cdeb69"), looks := true }, kinds := [], alts := [], laidByText := true, laidKinds := [.sentinel, .sentinel, .sentinel], laidTests := true, laidLooks := .later }
def FnClientSendsCardSaid : Prop := Claim7.holds Tryz.pinned (.plain (OpenSpec.ofChange fnClientSendsSpec)) fnClientSendsCard

/-- THE TIED CARD OF 'laws.FnLeastHolds'. -/
def fnLeastHoldsCard : Claim7 := { stood := { row := fnLeastHoldsRow, standIns := [], harness := (true, "068529dfeab07483f27957329afb3a8b1f0952aee8c2335741eef98e99cdeb69"), looks := true }, kinds := [], alts := [], laidByText := true, laidKinds := [.sentinel, .sentinel, .sentinel], laidTests := true, laidLooks := .later }
def FnLeastHoldsCardSaid : Prop := Claim7.holds Tryz.pinned (.plain (OpenSpec.ofChange fnLeastHoldsSpec)) fnLeastHoldsCard

/-- THE TIED CARD OF 'laws.FnPutCompact'. -/
def fnPutCompactCard : Claim7 := { stood := { row := fnPutCompactRow, standIns := [], harness := (true, "068529dfeab07483f27957329afb3a8b1f0952aee8c2335741eef98e99cdeb69"), looks := true }, kinds := [], alts := [], laidByText := true, laidKinds := [.sentinel, .sentinel, .sentinel], laidTests := true, laidLooks := .later }
def FnPutCompactCardSaid : Prop := Claim7.holds Tryz.pinned (.plain (OpenSpec.ofChange fnPutCompactSpec)) fnPutCompactCard

/-- THE TIED CARD OF 'laws.FnWriteCompact'. -/
def fnWriteCompactCard : Claim7 := { stood := { row := fnWriteCompactRow, standIns := [], harness := (true, "068529dfeab07483f27957329afb3a8b1f0952aee8c2335741eef98e99cdeb69"), looks := true }, kinds := [], alts := [], laidByText := true, laidKinds := [.sentinel, .sentinel, .sentinel], laidTests := true, laidLooks := .later }
def FnWriteCompactCardSaid : Prop := Claim7.holds Tryz.pinned (.plain (OpenSpec.ofChange fnWriteCompactSpec)) fnWriteCompactCard

/-- THE TIED CARD OF 'laws.FnPutBoth'. -/
def fnPutBothCard : Claim7 := { stood := { row := fnPutBothRow, standIns := [], harness := (true, "068529dfeab07483f27957329afb3a8b1f0952aee8c2335741eef98e99cdeb69"), looks := true }, kinds := [], alts := [], laidByText := true, laidKinds := [.sentinel, .sentinel, .sentinel], laidTests := true, laidLooks := .later }
def FnPutBothCardSaid : Prop := Claim7.holds Tryz.pinned (.plain (OpenSpec.ofChange fnPutBothSpec)) fnPutBothCard

/-- THE TIED CARD OF 'laws.FnName'. -/
def fnNameCard : Claim7 := { stood := { row := fnNameRow, standIns := [], harness := (true, "068529dfeab07483f27957329afb3a8b1f0952aee8c2335741eef98e99cdeb69"), looks := true }, kinds := [], alts := [], laidByText := true, laidKinds := [.sentinel, .sentinel, .sentinel], laidTests := true, laidLooks := .later }
def FnNameCardSaid : Prop := Claim7.holds Tryz.pinned (.plain (OpenSpec.ofChange fnNameSpec)) fnNameCard

/-- THE TIED CARD OF 'laws.FnThereBack'. -/
def fnThereBackCard : Claim7 := { stood := { row := fnThereBackRow, standIns := [], harness := (true, "068529dfeab07483f27957329afb3a8b1f0952aee8c2335741eef98e99cdeb69"), looks := true }, kinds := [], alts := [], laidByText := true, laidKinds := [.sentinel, .sentinel, .sentinel], laidTests := true, laidLooks := .later }
def FnThereBackCardSaid : Prop := Claim7.holds Tryz.pinned (.plain (OpenSpec.ofChange fnThereBackSpec)) fnThereBackCard

/-- THE TIED CARD OF 'laws.FnRow'. -/
def fnRowCard : Claim7 := { stood := { row := fnRowRow, standIns := [], harness := (true, "068529dfeab07483f27957329afb3a8b1f0952aee8c2335741eef98e99cdeb69"), looks := true }, kinds := [], alts := [], laidByText := true, laidKinds := [.sentinel, .sentinel, .sentinel], laidTests := true, laidLooks := .later }
def FnRowCardSaid : Prop := Claim7.holds Tryz.pinned (.plain (OpenSpec.ofChange fnRowSpec)) fnRowCard

/-- THE TIED CARD OF 'laws.FnNoneBegins'. -/
def fnNoneBeginsCard : Claim7 := { stood := { row := fnNoneBeginsRow, standIns := [], harness := (true, "068529dfeab07483f27957329afb3a8b1f0952aee8c2335741eef98e99cdeb69"), looks := true }, kinds := [], alts := [], laidByText := true, laidKinds := [.sentinel, .sentinel, .sentinel], laidTests := true, laidLooks := .later }
def FnNoneBeginsCardSaid : Prop := Claim7.holds Tryz.pinned (.plain (OpenSpec.ofChange fnNoneBeginsSpec)) fnNoneBeginsCard

/-- THE TIED CARD OF 'laws.FnDepth'. -/
def fnDepthCard : Claim7 := { stood := { row := fnDepthRow, standIns := [], harness := (true, "068529dfeab07483f27957329afb3a8b1f0952aee8c2335741eef98e99cdeb69"), looks := true }, kinds := [], alts := [], laidByText := true, laidKinds := [.sentinel, .sentinel, .sentinel], laidTests := true, laidLooks := .later }
def FnDepthCardSaid : Prop := Claim7.holds Tryz.pinned (.plain (OpenSpec.ofChange fnDepthSpec)) fnDepthCard

/-- THE SECOND FORM's CARD OF 'laws.FnSizes'. -/
def fnSizesUptoCard : Claim7 := { stood := { row := fnSizesUptoRow, standIns := [], harness := (true, "068529dfeab07483f27957329afb3a8b1f0952aee8c2335741eef98e99cdeb69"), looks := true }, kinds := [], alts := [], laidByText := true, laidKinds := [.sentinel, .sentinel, .sentinel], laidTests := true, laidLooks := .later }
def FnSizesUptoCardSaid : Prop := Claim7.holds Tryz.pinned (.plain (OpenSpec.upto fnSizesSpec)) fnSizesUptoCard

/-- THE SECOND FORM's CARD OF 'laws.FnMessageParts'. -/
def fnMessagePartsUptoCard : Claim7 := { stood := { row := fnMessagePartsUptoRow, standIns := [], harness := (true, "068529dfeab07483f27957329afb3a8b1f0952aee8c2335741eef98e99cdeb69"), looks := true }, kinds := [], alts := [], laidByText := true, laidKinds := [.sentinel, .sentinel, .sentinel], laidTests := true, laidLooks := .later }
def FnMessagePartsUptoCardSaid : Prop := Claim7.holds Tryz.pinned (.plain (OpenSpec.upto fnMessagePartsSpec)) fnMessagePartsUptoCard

/-- THE SECOND FORM's CARD OF 'laws.FnClientSends'. -/
def fnClientSendsUptoCard : Claim7 := { stood := { row := fnClientSendsUptoRow, standIns := [], harness := (true, "068529dfeab07483f27957329afb3a8b1f0952aee8c2335741eef98e99cdeb69"), looks := true }, kinds := [], alts := [], laidByText := true, laidKinds := [.sentinel, .sentinel, .sentinel], laidTests := true, laidLooks := .later }
def FnClientSendsUptoCardSaid : Prop := Claim7.holds Tryz.pinned (.plain (OpenSpec.upto fnClientSendsSpec)) fnClientSendsUptoCard

/-- THE SECOND FORM's CARD OF 'laws.FnLeastHolds'. -/
def fnLeastHoldsUptoCard : Claim7 := { stood := { row := fnLeastHoldsUptoRow, standIns := [], harness := (true, "068529dfeab07483f27957329afb3a8b1f0952aee8c2335741eef98e99cdeb69"), looks := true }, kinds := [], alts := [], laidByText := true, laidKinds := [.sentinel, .sentinel, .sentinel], laidTests := true, laidLooks := .later }
def FnLeastHoldsUptoCardSaid : Prop := Claim7.holds Tryz.pinned (.plain (OpenSpec.upto fnLeastHoldsSpec)) fnLeastHoldsUptoCard

/-- THE SECOND FORM's CARD OF 'laws.FnPutCompact'. -/
def fnPutCompactUptoCard : Claim7 := { stood := { row := fnPutCompactUptoRow, standIns := [], harness := (true, "068529dfeab07483f27957329afb3a8b1f0952aee8c2335741eef98e99cdeb69"), looks := true }, kinds := [], alts := [], laidByText := true, laidKinds := [.sentinel, .sentinel, .sentinel], laidTests := true, laidLooks := .later }
def FnPutCompactUptoCardSaid : Prop := Claim7.holds Tryz.pinned (.plain (OpenSpec.upto fnPutCompactSpec)) fnPutCompactUptoCard

/-- THE SECOND FORM's CARD OF 'laws.FnWriteCompact'. -/
def fnWriteCompactUptoCard : Claim7 := { stood := { row := fnWriteCompactUptoRow, standIns := [], harness := (true, "068529dfeab07483f27957329afb3a8b1f0952aee8c2335741eef98e99cdeb69"), looks := true }, kinds := [], alts := [], laidByText := true, laidKinds := [.sentinel, .sentinel, .sentinel], laidTests := true, laidLooks := .later }
def FnWriteCompactUptoCardSaid : Prop := Claim7.holds Tryz.pinned (.plain (OpenSpec.upto fnWriteCompactSpec)) fnWriteCompactUptoCard

/-- THE SECOND FORM's CARD OF 'laws.FnPutBoth'. -/
def fnPutBothUptoCard : Claim7 := { stood := { row := fnPutBothUptoRow, standIns := [], harness := (true, "068529dfeab07483f27957329afb3a8b1f0952aee8c2335741eef98e99cdeb69"), looks := true }, kinds := [], alts := [], laidByText := true, laidKinds := [.sentinel, .sentinel, .sentinel], laidTests := true, laidLooks := .later }
def FnPutBothUptoCardSaid : Prop := Claim7.holds Tryz.pinned (.plain (OpenSpec.upto fnPutBothSpec)) fnPutBothUptoCard

/-- THE SECOND FORM's CARD OF 'laws.FnName'. -/
def fnNameUptoCard : Claim7 := { stood := { row := fnNameUptoRow, standIns := [], harness := (true, "068529dfeab07483f27957329afb3a8b1f0952aee8c2335741eef98e99cdeb69"), looks := true }, kinds := [], alts := [], laidByText := true, laidKinds := [.sentinel, .sentinel, .sentinel], laidTests := true, laidLooks := .later }
def FnNameUptoCardSaid : Prop := Claim7.holds Tryz.pinned (.plain (OpenSpec.upto fnNameSpec)) fnNameUptoCard

/-- THE SECOND FORM's CARD OF 'laws.FnThereBack'. -/
def fnThereBackUptoCard : Claim7 := { stood := { row := fnThereBackUptoRow, standIns := [], harness := (true, "068529dfeab07483f27957329afb3a8b1f0952aee8c2335741eef98e99cdeb69"), looks := true }, kinds := [], alts := [], laidByText := true, laidKinds := [.sentinel, .sentinel, .sentinel], laidTests := true, laidLooks := .later }
def FnThereBackUptoCardSaid : Prop := Claim7.holds Tryz.pinned (.plain (OpenSpec.upto fnThereBackSpec)) fnThereBackUptoCard

/-- THE SECOND FORM's CARD OF 'laws.FnRow'. -/
def fnRowUptoCard : Claim7 := { stood := { row := fnRowUptoRow, standIns := [], harness := (true, "068529dfeab07483f27957329afb3a8b1f0952aee8c2335741eef98e99cdeb69"), looks := true }, kinds := [], alts := [], laidByText := true, laidKinds := [.sentinel, .sentinel, .sentinel], laidTests := true, laidLooks := .later }
def FnRowUptoCardSaid : Prop := Claim7.holds Tryz.pinned (.plain (OpenSpec.upto fnRowSpec)) fnRowUptoCard

/-- THE SECOND FORM's CARD OF 'laws.FnNoneBegins'. -/
def fnNoneBeginsUptoCard : Claim7 := { stood := { row := fnNoneBeginsUptoRow, standIns := [], harness := (true, "068529dfeab07483f27957329afb3a8b1f0952aee8c2335741eef98e99cdeb69"), looks := true }, kinds := [], alts := [], laidByText := true, laidKinds := [.sentinel, .sentinel, .sentinel], laidTests := true, laidLooks := .later }
def FnNoneBeginsUptoCardSaid : Prop := Claim7.holds Tryz.pinned (.plain (OpenSpec.upto fnNoneBeginsSpec)) fnNoneBeginsUptoCard

/-- THE SECOND FORM's CARD OF 'laws.FnDepth'. -/
def fnDepthUptoCard : Claim7 := { stood := { row := fnDepthUptoRow, standIns := [], harness := (true, "068529dfeab07483f27957329afb3a8b1f0952aee8c2335741eef98e99cdeb69"), looks := true }, kinds := [], alts := [], laidByText := true, laidKinds := [.sentinel, .sentinel, .sentinel], laidTests := true, laidLooks := .later }
def FnDepthUptoCardSaid : Prop := Claim7.holds Tryz.pinned (.plain (OpenSpec.upto fnDepthSpec)) fnDepthUptoCard
end Rows
end Go.Proofs.YtlgalaciegahnaaGreatDoor
