/-
  DERIVED. GIVEN WITH THE SEED: THE CARDS: each row of YtelocgemofghaaaGreatDoorRows.lean that lists a variable, with what it lists TIED to the program's text (the seventh form; the later family's looks); each row that meets fmt, with fmt's text TOLD by the authors' own Lean function (tested against real Go, not proved from fmt's source: count such statements apart). THE CARD IS WHAT COUNTS. Prove the row's statement (the work); the ties are given (YtelocgemofghaaaGreatDoorTie.lean); close each card by the builder's one call (the guide's Derived/Test/ToyasCard.lean, 'card_holds'). Laid BY PROGRAM, IN A SANDBOX (cutbox-door.mjs). By AI agents, Wed Nov 11 2026. No macro, syntax, notation, axiom, sorry.
-/
import Derived.Test.YtelocgemofghaaaGreatDoorRows
import GoSem.ClaimSeven
namespace Go.Proofs.YtelocgemofghaaaGreatDoor
namespace Rows

/-- THE TIED CARD OF 'laws.FnNegative'. -/
def fnNegativeCard : Claim7 := { stood := { row := fnNegativeRow, standIns := [], harness := (true, "2b91a9733a55d1a3ff1e7b18a46d1bf798588aa4917d51081168df772b83cc90"), looks := true }, kinds := [], alts := [], laidByText := true, laidKinds := [.sentinel, .sentinel, .sentinel], laidTests := true, laidLooks := .later }
def FnNegativeCardSaid : Prop := Claim7.holds Tryz.pinned (.plain (OpenSpec.ofChange fnNegativeSpec)) fnNegativeCard

/-- THE TIED CARD OF 'laws.FnLimitTexts'. -/
def fnLimitTextsCard : Claim7 := { stood := { row := fnLimitTextsRow, standIns := [], harness := (true, "2b91a9733a55d1a3ff1e7b18a46d1bf798588aa4917d51081168df772b83cc90"), looks := true }, kinds := [], alts := [], laidByText := true, laidKinds := [.sentinel, .sentinel, .sentinel], laidTests := true, laidLooks := .later }
def FnLimitTextsCardSaid : Prop := Claim7.holds Tryz.pinned (.plain (OpenSpec.ofChange fnLimitTextsSpec)) fnLimitTextsCard

/-- THE TIED CARD OF 'laws.FnThereBack'. -/
def fnThereBackCard : Claim7 := { stood := { row := fnThereBackRow, standIns := [], harness := (true, "2b91a9733a55d1a3ff1e7b18a46d1bf798588aa4917d51081168df772b83cc90"), looks := true }, kinds := [], alts := [], laidByText := true, laidKinds := [.sentinel, .sentinel, .sentinel], laidTests := true, laidLooks := .later }
def FnThereBackCardSaid : Prop := Claim7.holds Tryz.pinned (.plain (OpenSpec.ofChange fnThereBackSpec)) fnThereBackCard

/-- THE TIED CARD OF 'laws.FnRow'. -/
def fnRowCard : Claim7 := { stood := { row := fnRowRow, standIns := [], harness := (true, "2b91a9733a55d1a3ff1e7b18a46d1bf798588aa4917d51081168df772b83cc90"), looks := true }, kinds := [], alts := [], laidByText := true, laidKinds := [.sentinel, .sentinel, .sentinel], laidTests := true, laidLooks := .later }
def FnRowCardSaid : Prop := Claim7.holds Tryz.pinned (.plain (OpenSpec.ofChange fnRowSpec)) fnRowCard

/-- THE TIED CARD OF 'laws.FnDepth'. -/
def fnDepthCard : Claim7 := { stood := { row := fnDepthRow, standIns := [], harness := (true, "2b91a9733a55d1a3ff1e7b18a46d1bf798588aa4917d51081168df772b83cc90"), looks := true }, kinds := [], alts := [], laidByText := true, laidKinds := [.sentinel, .sentinel, .sentinel], laidTests := true, laidLooks := .later }
def FnDepthCardSaid : Prop := Claim7.holds Tryz.pinned (.plain (OpenSpec.ofChange fnDepthSpec)) fnDepthCard

/-- THE TIED CARD OF 'laws.FnSteps'. -/
def fnStepsCard : Claim7 := { stood := { row := fnStepsRow, standIns := [], harness := (true, "2b91a9733a55d1a3ff1e7b18a46d1bf798588aa4917d51081168df772b83cc90"), looks := true }, kinds := [], alts := [], laidByText := true, laidKinds := [.sentinel, .sentinel, .sentinel], laidTests := true, laidLooks := .later }
def FnStepsCardSaid : Prop := Claim7.holds Tryz.pinned (.plain (OpenSpec.ofChange fnStepsSpec)) fnStepsCard

/-- THE TIED CARD OF 'laws.FnSkipDeep'. -/
def fnSkipDeepCard : Claim7 := { stood := { row := fnSkipDeepRow, standIns := [], harness := (true, "2b91a9733a55d1a3ff1e7b18a46d1bf798588aa4917d51081168df772b83cc90"), looks := true }, kinds := [], alts := [], laidByText := true, laidKinds := [.sentinel, .sentinel, .sentinel], laidTests := true, laidLooks := .later }
def FnSkipDeepCardSaid : Prop := Claim7.holds Tryz.pinned (.plain (OpenSpec.ofChange fnSkipDeepSpec)) fnSkipDeepCard

/-- THE TIED CARD OF 'laws.FnCompactFields'. -/
def fnCompactFieldsCard : Claim7 := { stood := { row := fnCompactFieldsRow, standIns := [], harness := (true, "2b91a9733a55d1a3ff1e7b18a46d1bf798588aa4917d51081168df772b83cc90"), looks := true }, kinds := [], alts := [], laidByText := true, laidKinds := [.sentinel, .sentinel, .sentinel], laidTests := true, laidLooks := .later }
def FnCompactFieldsCardSaid : Prop := Claim7.holds Tryz.pinned (.plain (OpenSpec.ofChange fnCompactFieldsSpec)) fnCompactFieldsCard

/-- THE TIED CARD OF 'laws.FnName'. -/
def fnNameCard : Claim7 := { stood := { row := fnNameRow, standIns := [], harness := (true, "2b91a9733a55d1a3ff1e7b18a46d1bf798588aa4917d51081168df772b83cc90"), looks := true }, kinds := [], alts := [], laidByText := true, laidKinds := [.sentinel, .sentinel, .sentinel], laidTests := true, laidLooks := .later }
def FnNameCardSaid : Prop := Claim7.holds Tryz.pinned (.plain (OpenSpec.ofChange fnNameSpec)) fnNameCard

/-- THE SECOND FORM's CARD OF 'laws.FnNegative'. -/
def fnNegativeUptoCard : Claim7 := { stood := { row := fnNegativeUptoRow, standIns := [], harness := (true, "2b91a9733a55d1a3ff1e7b18a46d1bf798588aa4917d51081168df772b83cc90"), looks := true }, kinds := [], alts := [], laidByText := true, laidKinds := [.sentinel, .sentinel, .sentinel], laidTests := true, laidLooks := .later }
def FnNegativeUptoCardSaid : Prop := Claim7.holds Tryz.pinned (.plain (OpenSpec.upto fnNegativeSpec)) fnNegativeUptoCard

/-- THE SECOND FORM's CARD OF 'laws.FnLimitTexts'. -/
def fnLimitTextsUptoCard : Claim7 := { stood := { row := fnLimitTextsUptoRow, standIns := [], harness := (true, "2b91a9733a55d1a3ff1e7b18a46d1bf798588aa4917d51081168df772b83cc90"), looks := true }, kinds := [], alts := [], laidByText := true, laidKinds := [.sentinel, .sentinel, .sentinel], laidTests := true, laidLooks := .later }
def FnLimitTextsUptoCardSaid : Prop := Claim7.holds Tryz.pinned (.plain (OpenSpec.upto fnLimitTextsSpec)) fnLimitTextsUptoCard

/-- THE SECOND FORM's CARD OF 'laws.FnThereBack'. -/
def fnThereBackUptoCard : Claim7 := { stood := { row := fnThereBackUptoRow, standIns := [], harness := (true, "2b91a9733a55d1a3ff1e7b18a46d1bf798588aa4917d51081168df772b83cc90"), looks := true }, kinds := [], alts := [], laidByText := true, laidKinds := [.sentinel, .sentinel, .sentinel], laidTests := true, laidLooks := .later }
def FnThereBackUptoCardSaid : Prop := Claim7.holds Tryz.pinned (.plain (OpenSpec.upto fnThereBackSpec)) fnThereBackUptoCard

/-- THE SECOND FORM's CARD OF 'laws.FnRow'. -/
def fnRowUptoCard : Claim7 := { stood := { row := fnRowUptoRow, standIns := [], harness := (true, "2b91a9733a55d1a3ff1e7b18a46d1bf798588aa4917d51081168df772b83cc90"), looks := true }, kinds := [], alts := [], laidByText := true, laidKinds := [.sentinel, .sentinel, .sentinel], laidTests := true, laidLooks := .later }
def FnRowUptoCardSaid : Prop := Claim7.holds Tryz.pinned (.plain (OpenSpec.upto fnRowSpec)) fnRowUptoCard

/-- THE SECOND FORM's CARD OF 'laws.FnDepth'. -/
def fnDepthUptoCard : Claim7 := { stood := { row := fnDepthUptoRow, standIns := [], harness := (true, "2b91a9733a55d1a3ff1e7b18a46d1bf798588aa4917d51081168df772b83cc90"), looks := true }, kinds := [], alts := [], laidByText := true, laidKinds := [.sentinel, .sentinel, .sentinel], laidTests := true, laidLooks := .later }
def FnDepthUptoCardSaid : Prop := Claim7.holds Tryz.pinned (.plain (OpenSpec.upto fnDepthSpec)) fnDepthUptoCard

/-- THE SECOND FORM's CARD OF 'laws.FnSteps'. -/
def fnStepsUptoCard : Claim7 := { stood := { row := fnStepsUptoRow, standIns := [], harness := (true, "2b91a9733a55d1a3ff1e7b18a46d1bf798588aa4917d51081168df772b83cc90"), looks := true }, kinds := [], alts := [], laidByText := true, laidKinds := [.sentinel, .sentinel, .sentinel], laidTests := true, laidLooks := .later }
def FnStepsUptoCardSaid : Prop := Claim7.holds Tryz.pinned (.plain (OpenSpec.upto fnStepsSpec)) fnStepsUptoCard

/-- THE SECOND FORM's CARD OF 'laws.FnSkipDeep'. -/
def fnSkipDeepUptoCard : Claim7 := { stood := { row := fnSkipDeepUptoRow, standIns := [], harness := (true, "2b91a9733a55d1a3ff1e7b18a46d1bf798588aa4917d51081168df772b83cc90"), looks := true }, kinds := [], alts := [], laidByText := true, laidKinds := [.sentinel, .sentinel, .sentinel], laidTests := true, laidLooks := .later }
def FnSkipDeepUptoCardSaid : Prop := Claim7.holds Tryz.pinned (.plain (OpenSpec.upto fnSkipDeepSpec)) fnSkipDeepUptoCard

/-- THE SECOND FORM's CARD OF 'laws.FnCompactFields'. -/
def fnCompactFieldsUptoCard : Claim7 := { stood := { row := fnCompactFieldsUptoRow, standIns := [], harness := (true, "2b91a9733a55d1a3ff1e7b18a46d1bf798588aa4917d51081168df772b83cc90"), looks := true }, kinds := [], alts := [], laidByText := true, laidKinds := [.sentinel, .sentinel, .sentinel], laidTests := true, laidLooks := .later }
def FnCompactFieldsUptoCardSaid : Prop := Claim7.holds Tryz.pinned (.plain (OpenSpec.upto fnCompactFieldsSpec)) fnCompactFieldsUptoCard

/-- THE SECOND FORM's CARD OF 'laws.FnName'. -/
def fnNameUptoCard : Claim7 := { stood := { row := fnNameUptoRow, standIns := [], harness := (true, "2b91a9733a55d1a3ff1e7b18a46d1bf798588aa4917d51081168df772b83cc90"), looks := true }, kinds := [], alts := [], laidByText := true, laidKinds := [.sentinel, .sentinel, .sentinel], laidTests := true, laidLooks := .later }
def FnNameUptoCardSaid : Prop := Claim7.holds Tryz.pinned (.plain (OpenSpec.upto fnNameSpec)) fnNameUptoCard
end Rows
end Go.Proofs.YtelocgemofghaaaGreatDoor
