/-
  DERIVED. GIVEN WITH THE SEED: THE CARDS: each row of YtnpiheoglilcbaaGreatDoorRows.lean that lists a variable, with what it lists TIED to the program's text (the seventh form; the later family's looks); each row that meets fmt, with fmt's text TOLD by the authors' own Lean function (tested against real Go, not proved from fmt's source: count such statements apart). THE CARD IS WHAT COUNTS. Prove the row's statement (the work); the ties are given (YtnpiheoglilcbaaGreatDoorTie.lean); close each card by the builder's one call (the guide's Derived/Test/ToyasCard.lean, 'card_holds'). Laid BY PROGRAM, IN A SANDBOX (cutbox-door.mjs). By AI agents, Wed Nov 11 2026. No macro, syntax, notation, axiom, sorry.
-/
import Derived.Test.YtnpiheoglilcbaaGreatDoorRows
import GoSem.ClaimSeven
namespace Go.Proofs.YtnpiheoglilcbaaGreatDoor
namespace Rows

/-- THE TIED CARD OF 'laws.FnLeastHolds'. -/
def fnLeastHoldsCard : Claim7 := { stood := { row := fnLeastHoldsRow, standIns := [], harness := (true, "95d512aef86321710a0ab3096418a5cec6ed6778fae80fa45dc383bc2e3bbe2c"), looks := true }, kinds := [], alts := [], laidByText := true, laidKinds := [.sentinel, .sentinel, .sentinel], laidTests := true, laidLooks := .later }
def FnLeastHoldsCardSaid : Prop := Claim7.holds Tryz.pinned (.plain (OpenSpec.ofChange fnLeastHoldsSpec)) fnLeastHoldsCard

/-- THE TIED CARD OF 'laws.FnNoneBegins'. -/
def fnNoneBeginsCard : Claim7 := { stood := { row := fnNoneBeginsRow, standIns := [], harness := (true, "95d512aef86321710a0ab3096418a5cec6ed6778fae80fa45dc383bc2e3bbe2c"), looks := true }, kinds := [], alts := [], laidByText := true, laidKinds := [.sentinel, .sentinel, .sentinel], laidTests := true, laidLooks := .later }
def FnNoneBeginsCardSaid : Prop := Claim7.holds Tryz.pinned (.plain (OpenSpec.ofChange fnNoneBeginsSpec)) fnNoneBeginsCard

/-- THE TIED CARD OF 'laws.FnMessageParts'. -/
def fnMessagePartsCard : Claim7 := { stood := { row := fnMessagePartsRow, standIns := [], harness := (true, "95d512aef86321710a0ab3096418a5cec6ed6778fae80fa45dc383bc2e3bbe2c"), looks := true }, kinds := [], alts := [], laidByText := true, laidKinds := [.sentinel, .sentinel, .sentinel], laidTests := true, laidLooks := .later }
def FnMessagePartsCardSaid : Prop := Claim7.holds Tryz.pinned (.plain (OpenSpec.ofChange fnMessagePartsSpec)) fnMessagePartsCard

/-- THE TIED CARD OF 'laws.FnClientSends'. -/
def fnClientSendsCard : Claim7 := { stood := { row := fnClientSendsRow, standIns := [], harness := (true, "95d512aef86321710a0ab3096418a5cec6ed6778fae80fa45dc383bc2e3bbe2c"), looks := true }, kinds := [], alts := [], laidByText := true, laidKinds := [.sentinel, .sentinel, .sentinel], laidTests := true, laidLooks := .later }
def FnClientSendsCardSaid : Prop := Claim7.holds Tryz.pinned (.plain (OpenSpec.ofChange fnClientSendsSpec)) fnClientSendsCard

/-- THE TIED CARD OF 'laws.FnUnordered'. -/
def fnUnorderedCard : Claim7 := { stood := { row := fnUnorderedRow, standIns := [], harness := (true, "95d512aef86321710a0ab3096418a5cec6ed6778fae80fa45dc383bc2e3bbe2c"), looks := true }, kinds := [], alts := [], laidByText := true, laidKinds := [.sentinel, .sentinel, .sentinel], laidTests := true, laidLooks := .later }
def FnUnorderedCardSaid : Prop := Claim7.holds Tryz.pinned (.plain (OpenSpec.ofChange fnUnorderedSpec)) fnUnorderedCard

/-- THE SECOND FORM's CARD OF 'laws.FnLeastHolds'. -/
def fnLeastHoldsUptoCard : Claim7 := { stood := { row := fnLeastHoldsUptoRow, standIns := [], harness := (true, "95d512aef86321710a0ab3096418a5cec6ed6778fae80fa45dc383bc2e3bbe2c"), looks := true }, kinds := [], alts := [], laidByText := true, laidKinds := [.sentinel, .sentinel, .sentinel], laidTests := true, laidLooks := .later }
def FnLeastHoldsUptoCardSaid : Prop := Claim7.holds Tryz.pinned (.plain (OpenSpec.upto fnLeastHoldsSpec)) fnLeastHoldsUptoCard

/-- THE SECOND FORM's CARD OF 'laws.FnNoneBegins'. -/
def fnNoneBeginsUptoCard : Claim7 := { stood := { row := fnNoneBeginsUptoRow, standIns := [], harness := (true, "95d512aef86321710a0ab3096418a5cec6ed6778fae80fa45dc383bc2e3bbe2c"), looks := true }, kinds := [], alts := [], laidByText := true, laidKinds := [.sentinel, .sentinel, .sentinel], laidTests := true, laidLooks := .later }
def FnNoneBeginsUptoCardSaid : Prop := Claim7.holds Tryz.pinned (.plain (OpenSpec.upto fnNoneBeginsSpec)) fnNoneBeginsUptoCard

/-- THE SECOND FORM's CARD OF 'laws.FnMessageParts'. -/
def fnMessagePartsUptoCard : Claim7 := { stood := { row := fnMessagePartsUptoRow, standIns := [], harness := (true, "95d512aef86321710a0ab3096418a5cec6ed6778fae80fa45dc383bc2e3bbe2c"), looks := true }, kinds := [], alts := [], laidByText := true, laidKinds := [.sentinel, .sentinel, .sentinel], laidTests := true, laidLooks := .later }
def FnMessagePartsUptoCardSaid : Prop := Claim7.holds Tryz.pinned (.plain (OpenSpec.upto fnMessagePartsSpec)) fnMessagePartsUptoCard

/-- THE SECOND FORM's CARD OF 'laws.FnClientSends'. -/
def fnClientSendsUptoCard : Claim7 := { stood := { row := fnClientSendsUptoRow, standIns := [], harness := (true, "95d512aef86321710a0ab3096418a5cec6ed6778fae80fa45dc383bc2e3bbe2c"), looks := true }, kinds := [], alts := [], laidByText := true, laidKinds := [.sentinel, .sentinel, .sentinel], laidTests := true, laidLooks := .later }
def FnClientSendsUptoCardSaid : Prop := Claim7.holds Tryz.pinned (.plain (OpenSpec.upto fnClientSendsSpec)) fnClientSendsUptoCard

/-- THE SECOND FORM's CARD OF 'laws.FnUnordered'. -/
def fnUnorderedUptoCard : Claim7 := { stood := { row := fnUnorderedUptoRow, standIns := [], harness := (true, "95d512aef86321710a0ab3096418a5cec6ed6778fae80fa45dc383bc2e3bbe2c"), looks := true }, kinds := [], alts := [], laidByText := true, laidKinds := [.sentinel, .sentinel, .sentinel], laidTests := true, laidLooks := .later }
def FnUnorderedUptoCardSaid : Prop := Claim7.holds Tryz.pinned (.plain (OpenSpec.upto fnUnorderedSpec)) fnUnorderedUptoCard
end Rows
end Go.Proofs.YtnpiheoglilcbaaGreatDoor
