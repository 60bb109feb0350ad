/-
  DERIVED. GIVEN WITH THE SEED: THE CARDS: each row of YthmkkbihfdcbiaaGreatDoorRows.lean that lists a variable, with what it lists TIED to the program's text (the seventh form; the later family's looks); each row that meets fmt, with fmt's text TOLD by the authors' own Lean function (tested against real Go, not proved from fmt's source: count such statements apart). THE CARD IS WHAT COUNTS. Prove the row's statement (the work); the ties are given (YthmkkbihfdcbiaaGreatDoorTie.lean); close each card by the builder's one call (the guide's Derived/Test/ToyasCard.lean, 'card_holds'). Laid BY PROGRAM, IN A SANDBOX (cutbox-door.mjs). By AI agents, Wed Nov 11 2026. No macro, syntax, notation, axiom, sorry.
-/
import Derived.Test.YthmkkbihfdcbiaaGreatDoorRows
import GoSem.ClaimSeven
namespace Go.Proofs.YthmkkbihfdcbiaaGreatDoor
namespace Rows

/-- THE TIED CARD OF 'laws.FnLimitTexts'. -/
def fnLimitTextsCard : Claim7 := { stood := { row := fnLimitTextsRow, standIns := [], harness := (true, "732ece538c7cddaa86c2ba059688b199cbebdf0279c5fe2dd634563d52080725"), looks := true }, kinds := [], alts := [], laidByText := true, laidKinds := [.sentinel, .sentinel, .sentinel], laidTests := true, laidLooks := .later }
def FnLimitTextsCardSaid : Prop := Claim7.holds Tryz.pinned (.plain (OpenSpec.ofChange fnLimitTextsSpec)) fnLimitTextsCard

/-- THE TIED CARD OF 'laws.FnNegative'. -/
def fnNegativeCard : Claim7 := { stood := { row := fnNegativeRow, standIns := [], harness := (true, "732ece538c7cddaa86c2ba059688b199cbebdf0279c5fe2dd634563d52080725"), looks := true }, kinds := [], alts := [], laidByText := true, laidKinds := [.sentinel, .sentinel, .sentinel], laidTests := true, laidLooks := .later }
def FnNegativeCardSaid : Prop := Claim7.holds Tryz.pinned (.plain (OpenSpec.ofChange fnNegativeSpec)) fnNegativeCard

/-- THE TIED CARD OF 'laws.FnCompactNumbers'. -/
def fnCompactNumbersCard : Claim7 := { stood := { row := fnCompactNumbersRow, standIns := [], harness := (true, "732ece538c7cddaa86c2ba059688b199cbebdf0279c5fe2dd634563d52080725"), looks := true }, kinds := [], alts := [], laidByText := true, laidKinds := [.sentinel, .sentinel, .sentinel], laidTests := true, laidLooks := .later }
def FnCompactNumbersCardSaid : Prop := Claim7.holds Tryz.pinned (.plain (OpenSpec.ofChange fnCompactNumbersSpec)) fnCompactNumbersCard

/-- THE TIED CARD OF 'laws.FnCompactTexts'. -/
def fnCompactTextsCard : Claim7 := { stood := { row := fnCompactTextsRow, standIns := [], harness := (true, "732ece538c7cddaa86c2ba059688b199cbebdf0279c5fe2dd634563d52080725"), looks := true }, kinds := [], alts := [], laidByText := true, laidKinds := [.sentinel, .sentinel, .sentinel], laidTests := true, laidLooks := .later }
def FnCompactTextsCardSaid : Prop := Claim7.holds Tryz.pinned (.plain (OpenSpec.ofChange fnCompactTextsSpec)) fnCompactTextsCard

/-- THE TIED CARD OF 'laws.FnCompactMessages'. -/
def fnCompactMessagesCard : Claim7 := { stood := { row := fnCompactMessagesRow, standIns := [], harness := (true, "732ece538c7cddaa86c2ba059688b199cbebdf0279c5fe2dd634563d52080725"), looks := true }, kinds := [], alts := [], laidByText := true, laidKinds := [.sentinel, .sentinel, .sentinel], laidTests := true, laidLooks := .later }
def FnCompactMessagesCardSaid : Prop := Claim7.holds Tryz.pinned (.plain (OpenSpec.ofChange fnCompactMessagesSpec)) fnCompactMessagesCard

/-- THE TIED CARD OF 'laws.FnCompactLists'. -/
def fnCompactListsCard : Claim7 := { stood := { row := fnCompactListsRow, standIns := [], harness := (true, "732ece538c7cddaa86c2ba059688b199cbebdf0279c5fe2dd634563d52080725"), looks := true }, kinds := [], alts := [], laidByText := true, laidKinds := [.sentinel, .sentinel, .sentinel], laidTests := true, laidLooks := .later }
def FnCompactListsCardSaid : Prop := Claim7.holds Tryz.pinned (.plain (OpenSpec.ofChange fnCompactListsSpec)) fnCompactListsCard

/-- THE TIED CARD OF 'laws.FnCompactMaps'. -/
def fnCompactMapsCard : Claim7 := { stood := { row := fnCompactMapsRow, standIns := [], harness := (true, "732ece538c7cddaa86c2ba059688b199cbebdf0279c5fe2dd634563d52080725"), looks := true }, kinds := [], alts := [], laidByText := true, laidKinds := [.sentinel, .sentinel, .sentinel], laidTests := true, laidLooks := .later }
def FnCompactMapsCardSaid : Prop := Claim7.holds Tryz.pinned (.plain (OpenSpec.ofChange fnCompactMapsSpec)) fnCompactMapsCard

/-- THE TIED CARD OF 'laws.FnCompactFields'. -/
def fnCompactFieldsCard : Claim7 := { stood := { row := fnCompactFieldsRow, standIns := [], harness := (true, "732ece538c7cddaa86c2ba059688b199cbebdf0279c5fe2dd634563d52080725"), looks := true }, kinds := [], alts := [], laidByText := true, laidKinds := [.sentinel, .sentinel, .sentinel], laidTests := true, laidLooks := .later }
def FnCompactFieldsCardSaid : Prop := Claim7.holds Tryz.pinned (.plain (OpenSpec.ofChange fnCompactFieldsSpec)) fnCompactFieldsCard

/-- THE TIED CARD OF 'laws.FnName'. -/
def fnNameCard : Claim7 := { stood := { row := fnNameRow, standIns := [], harness := (true, "732ece538c7cddaa86c2ba059688b199cbebdf0279c5fe2dd634563d52080725"), looks := true }, kinds := [], alts := [], laidByText := true, laidKinds := [.sentinel, .sentinel, .sentinel], laidTests := true, laidLooks := .later }
def FnNameCardSaid : Prop := Claim7.holds Tryz.pinned (.plain (OpenSpec.ofChange fnNameSpec)) fnNameCard

/-- THE SECOND FORM's CARD OF 'laws.FnLimitTexts'. -/
def fnLimitTextsUptoCard : Claim7 := { stood := { row := fnLimitTextsUptoRow, standIns := [], harness := (true, "732ece538c7cddaa86c2ba059688b199cbebdf0279c5fe2dd634563d52080725"), looks := true }, kinds := [], alts := [], laidByText := true, laidKinds := [.sentinel, .sentinel, .sentinel], laidTests := true, laidLooks := .later }
def FnLimitTextsUptoCardSaid : Prop := Claim7.holds Tryz.pinned (.plain (OpenSpec.upto fnLimitTextsSpec)) fnLimitTextsUptoCard

/-- THE SECOND FORM's CARD OF 'laws.FnNegative'. -/
def fnNegativeUptoCard : Claim7 := { stood := { row := fnNegativeUptoRow, standIns := [], harness := (true, "732ece538c7cddaa86c2ba059688b199cbebdf0279c5fe2dd634563d52080725"), looks := true }, kinds := [], alts := [], laidByText := true, laidKinds := [.sentinel, .sentinel, .sentinel], laidTests := true, laidLooks := .later }
def FnNegativeUptoCardSaid : Prop := Claim7.holds Tryz.pinned (.plain (OpenSpec.upto fnNegativeSpec)) fnNegativeUptoCard

/-- THE SECOND FORM's CARD OF 'laws.FnCompactNumbers'. -/
def fnCompactNumbersUptoCard : Claim7 := { stood := { row := fnCompactNumbersUptoRow, standIns := [], harness := (true, "732ece538c7cddaa86c2ba059688b199cbebdf0279c5fe2dd634563d52080725"), looks := true }, kinds := [], alts := [], laidByText := true, laidKinds := [.sentinel, .sentinel, .sentinel], laidTests := true, laidLooks := .later }
def FnCompactNumbersUptoCardSaid : Prop := Claim7.holds Tryz.pinned (.plain (OpenSpec.upto fnCompactNumbersSpec)) fnCompactNumbersUptoCard

/-- THE SECOND FORM's CARD OF 'laws.FnCompactTexts'. -/
def fnCompactTextsUptoCard : Claim7 := { stood := { row := fnCompactTextsUptoRow, standIns := [], harness := (true, "732ece538c7cddaa86c2ba059688b199cbebdf0279c5fe2dd634563d52080725"), looks := true }, kinds := [], alts := [], laidByText := true, laidKinds := [.sentinel, .sentinel, .sentinel], laidTests := true, laidLooks := .later }
def FnCompactTextsUptoCardSaid : Prop := Claim7.holds Tryz.pinned (.plain (OpenSpec.upto fnCompactTextsSpec)) fnCompactTextsUptoCard

/-- THE SECOND FORM's CARD OF 'laws.FnCompactMessages'. -/
def fnCompactMessagesUptoCard : Claim7 := { stood := { row := fnCompactMessagesUptoRow, standIns := [], harness := (true, "732ece538c7cddaa86c2ba059688b199cbebdf0279c5fe2dd634563d52080725"), looks := true }, kinds := [], alts := [], laidByText := true, laidKinds := [.sentinel, .sentinel, .sentinel], laidTests := true, laidLooks := .later }
def FnCompactMessagesUptoCardSaid : Prop := Claim7.holds Tryz.pinned (.plain (OpenSpec.upto fnCompactMessagesSpec)) fnCompactMessagesUptoCard

/-- THE SECOND FORM's CARD OF 'laws.FnCompactLists'. -/
def fnCompactListsUptoCard : Claim7 := { stood := { row := fnCompactListsUptoRow, standIns := [], harness := (true, "732ece538c7cddaa86c2ba059688b199cbebdf0279c5fe2dd634563d52080725"), looks := true }, kinds := [], alts := [], laidByText := true, laidKinds := [.sentinel, .sentinel, .sentinel], laidTests := true, laidLooks := .later }
def FnCompactListsUptoCardSaid : Prop := Claim7.holds Tryz.pinned (.plain (OpenSpec.upto fnCompactListsSpec)) fnCompactListsUptoCard

/-- THE SECOND FORM's CARD OF 'laws.FnCompactMaps'. -/
def fnCompactMapsUptoCard : Claim7 := { stood := { row := fnCompactMapsUptoRow, standIns := [], harness := (true, "732ece538c7cddaa86c2ba059688b199cbebdf0279c5fe2dd634563d52080725"), looks := true }, kinds := [], alts := [], laidByText := true, laidKinds := [.sentinel, .sentinel, .sentinel], laidTests := true, laidLooks := .later }
def FnCompactMapsUptoCardSaid : Prop := Claim7.holds Tryz.pinned (.plain (OpenSpec.upto fnCompactMapsSpec)) fnCompactMapsUptoCard

/-- THE SECOND FORM's CARD OF 'laws.FnCompactFields'. -/
def fnCompactFieldsUptoCard : Claim7 := { stood := { row := fnCompactFieldsUptoRow, standIns := [], harness := (true, "732ece538c7cddaa86c2ba059688b199cbebdf0279c5fe2dd634563d52080725"), looks := true }, kinds := [], alts := [], laidByText := true, laidKinds := [.sentinel, .sentinel, .sentinel], laidTests := true, laidLooks := .later }
def FnCompactFieldsUptoCardSaid : Prop := Claim7.holds Tryz.pinned (.plain (OpenSpec.upto fnCompactFieldsSpec)) fnCompactFieldsUptoCard

/-- THE SECOND FORM's CARD OF 'laws.FnName'. -/
def fnNameUptoCard : Claim7 := { stood := { row := fnNameUptoRow, standIns := [], harness := (true, "732ece538c7cddaa86c2ba059688b199cbebdf0279c5fe2dd634563d52080725"), looks := true }, kinds := [], alts := [], laidByText := true, laidKinds := [.sentinel, .sentinel, .sentinel], laidTests := true, laidLooks := .later }
def FnNameUptoCardSaid : Prop := Claim7.holds Tryz.pinned (.plain (OpenSpec.upto fnNameSpec)) fnNameUptoCard
end Rows
end Go.Proofs.YthmkkbihfdcbiaaGreatDoor
