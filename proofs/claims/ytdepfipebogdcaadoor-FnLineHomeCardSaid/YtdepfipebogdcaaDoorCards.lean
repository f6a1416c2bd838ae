/-
  DERIVED. GIVEN WITH THE SEED: THE CARDS: each row of YtdepfipebogdcaaDoorRows.lean that lists a variable, with what it lists TIED to the program's text (the seventh form; the later family's looks); each row that meets fmt, with fmt's text TOLD by the authors' own Lean function (tested against real Go, not proved from fmt's source: count such statements apart). THE CARD IS WHAT COUNTS. Prove the row's statement (the work); the ties are given (YtdepfipebogdcaaDoorTie.lean); close each card by the builder's one call (the guide's Derived/Test/ToyasCard.lean, 'card_holds'). Laid BY PROGRAM, IN A SANDBOX (cutbox-door.mjs). By AI agents, Wed Nov 11 2026. No macro, syntax, notation, axiom, sorry.
-/
import Derived.Test.YtdepfipebogdcaaDoorRows
import GoSem.ClaimSeven
namespace Go.Proofs.YtdepfipebogdcaaDoor
namespace Rows

/-- THE TIED CARD OF 'laws.FnLineAnew'. -/
def fnLineAnewCard : Claim7 := { stood := { row := fnLineAnewRow, standIns := [], harness := (true, "e0c689635ce12fd854912794cdc4e67a295743476fcf3a9a6a4f25eb702a33d2"), looks := true }, kinds := [], alts := [], laidByText := true, laidKinds := [.data, .sentinel, .data, .data, .mapped, .sentinel, .pinned, .pinned], laidTests := true, laidLooks := .later }
def FnLineAnewCardSaid : Prop := Claim7.holds Tryd.pinned (.plain (OpenSpec.ofChange fnLineAnewSpec)) fnLineAnewCard

/-- THE TIED CARD OF 'laws.FnLineFixed'. -/
def fnLineFixedCard : Claim7 := { stood := { row := fnLineFixedRow, standIns := [], harness := (true, "e0c689635ce12fd854912794cdc4e67a295743476fcf3a9a6a4f25eb702a33d2"), looks := true }, kinds := [], alts := [], laidByText := true, laidKinds := [.data, .sentinel, .data, .data, .mapped, .sentinel, .pinned, .pinned], laidTests := true, laidLooks := .later }
def FnLineFixedCardSaid : Prop := Claim7.holds Tryd.pinned (.plain (OpenSpec.ofChange fnLineFixedSpec)) fnLineFixedCard

/-- THE TIED CARD OF 'laws.FnLineFlags'. -/
def fnLineFlagsCard : Claim7 := { stood := { row := fnLineFlagsRow, standIns := [], harness := (true, "e0c689635ce12fd854912794cdc4e67a295743476fcf3a9a6a4f25eb702a33d2"), looks := true }, kinds := [], alts := [], laidByText := true, laidKinds := [.data, .sentinel, .data, .data, .mapped, .sentinel, .pinned, .pinned], laidTests := true, laidLooks := .later }
def FnLineFlagsCardSaid : Prop := Claim7.holds Tryd.pinned (.plain (OpenSpec.ofChange fnLineFlagsSpec)) fnLineFlagsCard

/-- THE TIED CARD OF 'laws.FnLineHome'. -/
def fnLineHomeCard : Claim7 := { stood := { row := fnLineHomeRow, standIns := [], harness := (true, "e0c689635ce12fd854912794cdc4e67a295743476fcf3a9a6a4f25eb702a33d2"), looks := true }, kinds := [], alts := [], laidByText := true, laidKinds := [.data, .sentinel, .data, .data, .mapped, .sentinel, .pinned, .pinned], laidTests := true, laidLooks := .later }
def FnLineHomeCardSaid : Prop := Claim7.holds Tryd.pinned (.plain (OpenSpec.ofChange fnLineHomeSpec)) fnLineHomeCard

/-- THE TIED CARD OF 'laws.FnLineNumbers'. -/
def fnLineNumbersCard : Claim7 := { stood := { row := fnLineNumbersRow, standIns := [], harness := (true, "e0c689635ce12fd854912794cdc4e67a295743476fcf3a9a6a4f25eb702a33d2"), looks := true }, kinds := [], alts := [], laidByText := true, laidKinds := [.data, .sentinel, .data, .data, .mapped, .sentinel, .pinned, .pinned], laidTests := true, laidLooks := .later }
def FnLineNumbersCardSaid : Prop := Claim7.holds Tryd.pinned (.plain (OpenSpec.ofChange fnLineNumbersSpec)) fnLineNumbersCard

/-- THE TIED CARD OF 'laws.FnLineOperations'. -/
def fnLineOperationsCard : Claim7 := { stood := { row := fnLineOperationsRow, standIns := [], harness := (true, "e0c689635ce12fd854912794cdc4e67a295743476fcf3a9a6a4f25eb702a33d2"), looks := true }, kinds := [], alts := [], laidByText := true, laidKinds := [.data, .sentinel, .data, .data, .mapped, .sentinel, .pinned, .pinned], laidTests := true, laidLooks := .later }
def FnLineOperationsCardSaid : Prop := Claim7.holds Tryd.pinned (.plain (OpenSpec.ofChange fnLineOperationsSpec)) fnLineOperationsCard

/-- THE TIED CARD OF 'laws.FnLinePassed'. -/
def fnLinePassedCard : Claim7 := { stood := { row := fnLinePassedRow, standIns := [], harness := (true, "e0c689635ce12fd854912794cdc4e67a295743476fcf3a9a6a4f25eb702a33d2"), looks := true }, kinds := [], alts := [], laidByText := true, laidKinds := [.data, .sentinel, .data, .data, .mapped, .sentinel, .pinned, .pinned], laidTests := true, laidLooks := .later }
def FnLinePassedCardSaid : Prop := Claim7.holds Tryd.pinned (.plain (OpenSpec.ofChange fnLinePassedSpec)) fnLinePassedCard

/-- THE TIED CARD OF 'laws.FnLineSet'. -/
def fnLineSetCard : Claim7 := { stood := { row := fnLineSetRow, standIns := [], harness := (true, "e0c689635ce12fd854912794cdc4e67a295743476fcf3a9a6a4f25eb702a33d2"), looks := true }, kinds := [], alts := [], laidByText := true, laidKinds := [.data, .sentinel, .data, .data, .mapped, .sentinel, .pinned, .pinned], laidTests := true, laidLooks := .later }
def FnLineSetCardSaid : Prop := Claim7.holds Tryd.pinned (.plain (OpenSpec.ofChange fnLineSetSpec)) fnLineSetCard

/-- THE TIED CARD OF 'laws.FnLineSpecial'. -/
def fnLineSpecialCard : Claim7 := { stood := { row := fnLineSpecialRow, standIns := [], harness := (true, "e0c689635ce12fd854912794cdc4e67a295743476fcf3a9a6a4f25eb702a33d2"), looks := true }, kinds := [], alts := [], laidByText := true, laidKinds := [.data, .sentinel, .data, .data, .mapped, .sentinel, .pinned, .pinned], laidTests := true, laidLooks := .later }
def FnLineSpecialCardSaid : Prop := Claim7.holds Tryd.pinned (.plain (OpenSpec.ofChange fnLineSpecialSpec)) fnLineSpecialCard

/-- THE SECOND FORM's CARD OF 'laws.FnLineAnew'. -/
def fnLineAnewUptoCard : Claim7 := { stood := { row := fnLineAnewUptoRow, standIns := [], harness := (true, "e0c689635ce12fd854912794cdc4e67a295743476fcf3a9a6a4f25eb702a33d2"), looks := true }, kinds := [], alts := [], laidByText := true, laidKinds := [.data, .sentinel, .data, .data, .mapped, .sentinel, .pinned, .pinned], laidTests := true, laidLooks := .later }
def FnLineAnewUptoCardSaid : Prop := Claim7.holds Tryd.pinned (.plain (OpenSpec.upto fnLineAnewSpec)) fnLineAnewUptoCard

/-- THE SECOND FORM's CARD OF 'laws.FnLineFixed'. -/
def fnLineFixedUptoCard : Claim7 := { stood := { row := fnLineFixedUptoRow, standIns := [], harness := (true, "e0c689635ce12fd854912794cdc4e67a295743476fcf3a9a6a4f25eb702a33d2"), looks := true }, kinds := [], alts := [], laidByText := true, laidKinds := [.data, .sentinel, .data, .data, .mapped, .sentinel, .pinned, .pinned], laidTests := true, laidLooks := .later }
def FnLineFixedUptoCardSaid : Prop := Claim7.holds Tryd.pinned (.plain (OpenSpec.upto fnLineFixedSpec)) fnLineFixedUptoCard

/-- THE SECOND FORM's CARD OF 'laws.FnLineFlags'. -/
def fnLineFlagsUptoCard : Claim7 := { stood := { row := fnLineFlagsUptoRow, standIns := [], harness := (true, "e0c689635ce12fd854912794cdc4e67a295743476fcf3a9a6a4f25eb702a33d2"), looks := true }, kinds := [], alts := [], laidByText := true, laidKinds := [.data, .sentinel, .data, .data, .mapped, .sentinel, .pinned, .pinned], laidTests := true, laidLooks := .later }
def FnLineFlagsUptoCardSaid : Prop := Claim7.holds Tryd.pinned (.plain (OpenSpec.upto fnLineFlagsSpec)) fnLineFlagsUptoCard

/-- THE SECOND FORM's CARD OF 'laws.FnLineHome'. -/
def fnLineHomeUptoCard : Claim7 := { stood := { row := fnLineHomeUptoRow, standIns := [], harness := (true, "e0c689635ce12fd854912794cdc4e67a295743476fcf3a9a6a4f25eb702a33d2"), looks := true }, kinds := [], alts := [], laidByText := true, laidKinds := [.data, .sentinel, .data, .data, .mapped, .sentinel, .pinned, .pinned], laidTests := true, laidLooks := .later }
def FnLineHomeUptoCardSaid : Prop := Claim7.holds Tryd.pinned (.plain (OpenSpec.upto fnLineHomeSpec)) fnLineHomeUptoCard

/-- THE SECOND FORM's CARD OF 'laws.FnLineNumbers'. -/
def fnLineNumbersUptoCard : Claim7 := { stood := { row := fnLineNumbersUptoRow, standIns := [], harness := (true, "e0c689635ce12fd854912794cdc4e67a295743476fcf3a9a6a4f25eb702a33d2"), looks := true }, kinds := [], alts := [], laidByText := true, laidKinds := [.data, .sentinel, .data, .data, .mapped, .sentinel, .pinned, .pinned], laidTests := true, laidLooks := .later }
def FnLineNumbersUptoCardSaid : Prop := Claim7.holds Tryd.pinned (.plain (OpenSpec.upto fnLineNumbersSpec)) fnLineNumbersUptoCard

/-- THE SECOND FORM's CARD OF 'laws.FnLineOperations'. -/
def fnLineOperationsUptoCard : Claim7 := { stood := { row := fnLineOperationsUptoRow, standIns := [], harness := (true, "e0c689635ce12fd854912794cdc4e67a295743476fcf3a9a6a4f25eb702a33d2"), looks := true }, kinds := [], alts := [], laidByText := true, laidKinds := [.data, .sentinel, .data, .data, .mapped, .sentinel, .pinned, .pinned], laidTests := true, laidLooks := .later }
def FnLineOperationsUptoCardSaid : Prop := Claim7.holds Tryd.pinned (.plain (OpenSpec.upto fnLineOperationsSpec)) fnLineOperationsUptoCard

/-- THE SECOND FORM's CARD OF 'laws.FnLinePassed'. -/
def fnLinePassedUptoCard : Claim7 := { stood := { row := fnLinePassedUptoRow, standIns := [], harness := (true, "e0c689635ce12fd854912794cdc4e67a295743476fcf3a9a6a4f25eb702a33d2"), looks := true }, kinds := [], alts := [], laidByText := true, laidKinds := [.data, .sentinel, .data, .data, .mapped, .sentinel, .pinned, .pinned], laidTests := true, laidLooks := .later }
def FnLinePassedUptoCardSaid : Prop := Claim7.holds Tryd.pinned (.plain (OpenSpec.upto fnLinePassedSpec)) fnLinePassedUptoCard

/-- THE SECOND FORM's CARD OF 'laws.FnLineSet'. -/
def fnLineSetUptoCard : Claim7 := { stood := { row := fnLineSetUptoRow, standIns := [], harness := (true, "e0c689635ce12fd854912794cdc4e67a295743476fcf3a9a6a4f25eb702a33d2"), looks := true }, kinds := [], alts := [], laidByText := true, laidKinds := [.data, .sentinel, .data, .data, .mapped, .sentinel, .pinned, .pinned], laidTests := true, laidLooks := .later }
def FnLineSetUptoCardSaid : Prop := Claim7.holds Tryd.pinned (.plain (OpenSpec.upto fnLineSetSpec)) fnLineSetUptoCard

/-- THE SECOND FORM's CARD OF 'laws.FnLineSpecial'. -/
def fnLineSpecialUptoCard : Claim7 := { stood := { row := fnLineSpecialUptoRow, standIns := [], harness := (true, "e0c689635ce12fd854912794cdc4e67a295743476fcf3a9a6a4f25eb702a33d2"), looks := true }, kinds := [], alts := [], laidByText := true, laidKinds := [.data, .sentinel, .data, .data, .mapped, .sentinel, .pinned, .pinned], laidTests := true, laidLooks := .later }
def FnLineSpecialUptoCardSaid : Prop := Claim7.holds Tryd.pinned (.plain (OpenSpec.upto fnLineSpecialSpec)) fnLineSpecialUptoCard
end Rows
end Go.Proofs.YtdepfipebogdcaaDoor
