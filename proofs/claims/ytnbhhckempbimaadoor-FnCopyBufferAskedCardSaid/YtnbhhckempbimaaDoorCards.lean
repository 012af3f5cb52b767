/-
  DERIVED. GIVEN WITH THE SEED: THE CARDS: each row of YtnbhhckempbimaaDoorRows.lean that lists a variable, with what it lists TIED to the program's text (the seventh form; the later family's looks); each row that meets fmt, with fmt's text TOLD by the authors' own Lean function (tested against real Go, not proved from fmt's source: count such statements apart). THE CARD IS WHAT COUNTS. Prove the row's statement (the work); the ties are given (YtnbhhckempbimaaDoorTie.lean); close each card by the builder's one call (the guide's Derived/Test/ToyasCard.lean, 'card_holds'). Laid BY PROGRAM, IN A SANDBOX (cutbox-door.mjs). By AI agents, Wed Nov 11 2026. No macro, syntax, notation, axiom, sorry.
-/
import Derived.Test.YtnbhhckempbimaaDoorRows
import GoSem.ClaimSeven
namespace Go.Proofs.YtnbhhckempbimaaDoor
namespace Rows

/-- THE TIED CARD OF 'laws.FnCopyBuffer'. -/
def fnCopyBufferCard : Claim7 := { stood := { row := fnCopyBufferRow, standIns := [], harness := (true, "c2a08052f04ad628af2484b33c84f7b99cdf9b72c320b9708c9c94857fbd3793"), looks := true }, kinds := [], alts := [], laidByText := true, laidKinds := [.sentinel, .sentinel, .sentinel, .sentinel, .sentinel], laidTests := true, laidLooks := .later }
def FnCopyBufferCardSaid : Prop := Claim7.holds Tryd.pinned (.plain (OpenSpec.ofChange fnCopyBufferSpec)) fnCopyBufferCard

/-- THE TIED CARD OF 'laws.FnCopyBufferAsked'. -/
def fnCopyBufferAskedCard : Claim7 := { stood := { row := fnCopyBufferAskedRow, standIns := [], harness := (true, "c2a08052f04ad628af2484b33c84f7b99cdf9b72c320b9708c9c94857fbd3793"), looks := true }, kinds := [], alts := [], laidByText := true, laidKinds := [.sentinel, .sentinel, .sentinel, .sentinel, .sentinel], laidTests := true, laidLooks := .later }
def FnCopyBufferAskedCardSaid : Prop := Claim7.holds Tryd.pinned (.plain (OpenSpec.ofChange fnCopyBufferAskedSpec)) fnCopyBufferAskedCard

/-- THE TIED CARD OF 'laws.FnCopyBufferEmpty'. -/
def fnCopyBufferEmptyCard : Claim7 := { stood := { row := fnCopyBufferEmptyRow, standIns := [], harness := (true, "c2a08052f04ad628af2484b33c84f7b99cdf9b72c320b9708c9c94857fbd3793"), looks := true }, kinds := [], alts := [], laidByText := true, laidKinds := [.sentinel, .sentinel, .sentinel, .sentinel, .sentinel], laidTests := true, laidLooks := .later }
def FnCopyBufferEmptyCardSaid : Prop := Claim7.holds Tryd.pinned (.plain (OpenSpec.ofChange fnCopyBufferEmptySpec)) fnCopyBufferEmptyCard

/-- THE TIED CARD OF 'laws.FnCopyBufferEmptyDirect'. -/
def fnCopyBufferEmptyDirectCard : Claim7 := { stood := { row := fnCopyBufferEmptyDirectRow, standIns := [], harness := (true, "c2a08052f04ad628af2484b33c84f7b99cdf9b72c320b9708c9c94857fbd3793"), looks := true }, kinds := [], alts := [], laidByText := true, laidKinds := [.sentinel, .sentinel, .sentinel, .sentinel, .sentinel], laidTests := true, laidLooks := .later }
def FnCopyBufferEmptyDirectCardSaid : Prop := Claim7.holds Tryd.pinned (.plain (OpenSpec.ofChange fnCopyBufferEmptyDirectSpec)) fnCopyBufferEmptyDirectCard

/-- THE TIED CARD OF 'laws.FnCopyBufferGood'. -/
def fnCopyBufferGoodCard : Claim7 := { stood := { row := fnCopyBufferGoodRow, standIns := [], harness := (true, "c2a08052f04ad628af2484b33c84f7b99cdf9b72c320b9708c9c94857fbd3793"), looks := true }, kinds := [], alts := [], laidByText := true, laidKinds := [.sentinel, .sentinel, .sentinel, .sentinel, .sentinel], laidTests := true, laidLooks := .later }
def FnCopyBufferGoodCardSaid : Prop := Claim7.holds Tryd.pinned (.plain (OpenSpec.ofChange fnCopyBufferGoodSpec)) fnCopyBufferGoodCard

/-- THE TIED CARD OF 'laws.FnCopyBufferNil'. -/
def fnCopyBufferNilCard : Claim7 := { stood := { row := fnCopyBufferNilRow, standIns := [], harness := (true, "c2a08052f04ad628af2484b33c84f7b99cdf9b72c320b9708c9c94857fbd3793"), looks := true }, kinds := [], alts := [], laidByText := true, laidKinds := [.sentinel, .sentinel, .sentinel, .sentinel, .sentinel], laidTests := true, laidLooks := .later }
def FnCopyBufferNilCardSaid : Prop := Claim7.holds Tryd.pinned (.plain (OpenSpec.ofChange fnCopyBufferNilSpec)) fnCopyBufferNilCard

/-- THE TIED CARD OF 'laws.FnCopyBufferRoad'. -/
def fnCopyBufferRoadCard : Claim7 := { stood := { row := fnCopyBufferRoadRow, standIns := [], harness := (true, "c2a08052f04ad628af2484b33c84f7b99cdf9b72c320b9708c9c94857fbd3793"), looks := true }, kinds := [], alts := [], laidByText := true, laidKinds := [.sentinel, .sentinel, .sentinel, .sentinel, .sentinel], laidTests := true, laidLooks := .later }
def FnCopyBufferRoadCardSaid : Prop := Claim7.holds Tryd.pinned (.plain (OpenSpec.ofChange fnCopyBufferRoadSpec)) fnCopyBufferRoadCard

/-- THE TIED CARD OF 'laws.FnCopyBufferRoom'. -/
def fnCopyBufferRoomCard : Claim7 := { stood := { row := fnCopyBufferRoomRow, standIns := [], harness := (true, "c2a08052f04ad628af2484b33c84f7b99cdf9b72c320b9708c9c94857fbd3793"), looks := true }, kinds := [], alts := [], laidByText := true, laidKinds := [.sentinel, .sentinel, .sentinel, .sentinel, .sentinel], laidTests := true, laidLooks := .later }
def FnCopyBufferRoomCardSaid : Prop := Claim7.holds Tryd.pinned (.plain (OpenSpec.ofChange fnCopyBufferRoomSpec)) fnCopyBufferRoomCard

/-- THE TIED CARD OF 'laws.FnCopyBufferStages'. -/
def fnCopyBufferStagesCard : Claim7 := { stood := { row := fnCopyBufferStagesRow, standIns := [], harness := (true, "c2a08052f04ad628af2484b33c84f7b99cdf9b72c320b9708c9c94857fbd3793"), looks := true }, kinds := [], alts := [], laidByText := true, laidKinds := [.sentinel, .sentinel, .sentinel, .sentinel, .sentinel], laidTests := true, laidLooks := .later }
def FnCopyBufferStagesCardSaid : Prop := Claim7.holds Tryd.pinned (.plain (OpenSpec.ofChange fnCopyBufferStagesSpec)) fnCopyBufferStagesCard

/-- THE TIED CARD OF 'laws.FnCopyBufferTwo'. -/
def fnCopyBufferTwoCard : Claim7 := { stood := { row := fnCopyBufferTwoRow, standIns := [], harness := (true, "c2a08052f04ad628af2484b33c84f7b99cdf9b72c320b9708c9c94857fbd3793"), looks := true }, kinds := [], alts := [], laidByText := true, laidKinds := [.sentinel, .sentinel, .sentinel, .sentinel, .sentinel], laidTests := true, laidLooks := .later }
def FnCopyBufferTwoCardSaid : Prop := Claim7.holds Tryd.pinned (.plain (OpenSpec.ofChange fnCopyBufferTwoSpec)) fnCopyBufferTwoCard

/-- THE TIED CARD OF 'laws.FnCopyBufferUnused'. -/
def fnCopyBufferUnusedCard : Claim7 := { stood := { row := fnCopyBufferUnusedRow, standIns := [], harness := (true, "c2a08052f04ad628af2484b33c84f7b99cdf9b72c320b9708c9c94857fbd3793"), looks := true }, kinds := [], alts := [], laidByText := true, laidKinds := [.sentinel, .sentinel, .sentinel, .sentinel, .sentinel], laidTests := true, laidLooks := .later }
def FnCopyBufferUnusedCardSaid : Prop := Claim7.holds Tryd.pinned (.plain (OpenSpec.ofChange fnCopyBufferUnusedSpec)) fnCopyBufferUnusedCard

/-- THE SECOND FORM's CARD OF 'laws.FnCopyBuffer'. -/
def fnCopyBufferUptoCard : Claim7 := { stood := { row := fnCopyBufferUptoRow, standIns := [], harness := (true, "c2a08052f04ad628af2484b33c84f7b99cdf9b72c320b9708c9c94857fbd3793"), looks := true }, kinds := [], alts := [], laidByText := true, laidKinds := [.sentinel, .sentinel, .sentinel, .sentinel, .sentinel], laidTests := true, laidLooks := .later }
def FnCopyBufferUptoCardSaid : Prop := Claim7.holds Tryd.pinned (.plain (OpenSpec.upto fnCopyBufferSpec)) fnCopyBufferUptoCard

/-- THE SECOND FORM's CARD OF 'laws.FnCopyBufferAsked'. -/
def fnCopyBufferAskedUptoCard : Claim7 := { stood := { row := fnCopyBufferAskedUptoRow, standIns := [], harness := (true, "c2a08052f04ad628af2484b33c84f7b99cdf9b72c320b9708c9c94857fbd3793"), looks := true }, kinds := [], alts := [], laidByText := true, laidKinds := [.sentinel, .sentinel, .sentinel, .sentinel, .sentinel], laidTests := true, laidLooks := .later }
def FnCopyBufferAskedUptoCardSaid : Prop := Claim7.holds Tryd.pinned (.plain (OpenSpec.upto fnCopyBufferAskedSpec)) fnCopyBufferAskedUptoCard

/-- THE SECOND FORM's CARD OF 'laws.FnCopyBufferEmpty'. -/
def fnCopyBufferEmptyUptoCard : Claim7 := { stood := { row := fnCopyBufferEmptyUptoRow, standIns := [], harness := (true, "c2a08052f04ad628af2484b33c84f7b99cdf9b72c320b9708c9c94857fbd3793"), looks := true }, kinds := [], alts := [], laidByText := true, laidKinds := [.sentinel, .sentinel, .sentinel, .sentinel, .sentinel], laidTests := true, laidLooks := .later }
def FnCopyBufferEmptyUptoCardSaid : Prop := Claim7.holds Tryd.pinned (.plain (OpenSpec.upto fnCopyBufferEmptySpec)) fnCopyBufferEmptyUptoCard

/-- THE SECOND FORM's CARD OF 'laws.FnCopyBufferEmptyDirect'. -/
def fnCopyBufferEmptyDirectUptoCard : Claim7 := { stood := { row := fnCopyBufferEmptyDirectUptoRow, standIns := [], harness := (true, "c2a08052f04ad628af2484b33c84f7b99cdf9b72c320b9708c9c94857fbd3793"), looks := true }, kinds := [], alts := [], laidByText := true, laidKinds := [.sentinel, .sentinel, .sentinel, .sentinel, .sentinel], laidTests := true, laidLooks := .later }
def FnCopyBufferEmptyDirectUptoCardSaid : Prop := Claim7.holds Tryd.pinned (.plain (OpenSpec.upto fnCopyBufferEmptyDirectSpec)) fnCopyBufferEmptyDirectUptoCard

/-- THE SECOND FORM's CARD OF 'laws.FnCopyBufferGood'. -/
def fnCopyBufferGoodUptoCard : Claim7 := { stood := { row := fnCopyBufferGoodUptoRow, standIns := [], harness := (true, "c2a08052f04ad628af2484b33c84f7b99cdf9b72c320b9708c9c94857fbd3793"), looks := true }, kinds := [], alts := [], laidByText := true, laidKinds := [.sentinel, .sentinel, .sentinel, .sentinel, .sentinel], laidTests := true, laidLooks := .later }
def FnCopyBufferGoodUptoCardSaid : Prop := Claim7.holds Tryd.pinned (.plain (OpenSpec.upto fnCopyBufferGoodSpec)) fnCopyBufferGoodUptoCard

/-- THE SECOND FORM's CARD OF 'laws.FnCopyBufferNil'. -/
def fnCopyBufferNilUptoCard : Claim7 := { stood := { row := fnCopyBufferNilUptoRow, standIns := [], harness := (true, "c2a08052f04ad628af2484b33c84f7b99cdf9b72c320b9708c9c94857fbd3793"), looks := true }, kinds := [], alts := [], laidByText := true, laidKinds := [.sentinel, .sentinel, .sentinel, .sentinel, .sentinel], laidTests := true, laidLooks := .later }
def FnCopyBufferNilUptoCardSaid : Prop := Claim7.holds Tryd.pinned (.plain (OpenSpec.upto fnCopyBufferNilSpec)) fnCopyBufferNilUptoCard

/-- THE SECOND FORM's CARD OF 'laws.FnCopyBufferRoad'. -/
def fnCopyBufferRoadUptoCard : Claim7 := { stood := { row := fnCopyBufferRoadUptoRow, standIns := [], harness := (true, "c2a08052f04ad628af2484b33c84f7b99cdf9b72c320b9708c9c94857fbd3793"), looks := true }, kinds := [], alts := [], laidByText := true, laidKinds := [.sentinel, .sentinel, .sentinel, .sentinel, .sentinel], laidTests := true, laidLooks := .later }
def FnCopyBufferRoadUptoCardSaid : Prop := Claim7.holds Tryd.pinned (.plain (OpenSpec.upto fnCopyBufferRoadSpec)) fnCopyBufferRoadUptoCard

/-- THE SECOND FORM's CARD OF 'laws.FnCopyBufferRoom'. -/
def fnCopyBufferRoomUptoCard : Claim7 := { stood := { row := fnCopyBufferRoomUptoRow, standIns := [], harness := (true, "c2a08052f04ad628af2484b33c84f7b99cdf9b72c320b9708c9c94857fbd3793"), looks := true }, kinds := [], alts := [], laidByText := true, laidKinds := [.sentinel, .sentinel, .sentinel, .sentinel, .sentinel], laidTests := true, laidLooks := .later }
def FnCopyBufferRoomUptoCardSaid : Prop := Claim7.holds Tryd.pinned (.plain (OpenSpec.upto fnCopyBufferRoomSpec)) fnCopyBufferRoomUptoCard

/-- THE SECOND FORM's CARD OF 'laws.FnCopyBufferStages'. -/
def fnCopyBufferStagesUptoCard : Claim7 := { stood := { row := fnCopyBufferStagesUptoRow, standIns := [], harness := (true, "c2a08052f04ad628af2484b33c84f7b99cdf9b72c320b9708c9c94857fbd3793"), looks := true }, kinds := [], alts := [], laidByText := true, laidKinds := [.sentinel, .sentinel, .sentinel, .sentinel, .sentinel], laidTests := true, laidLooks := .later }
def FnCopyBufferStagesUptoCardSaid : Prop := Claim7.holds Tryd.pinned (.plain (OpenSpec.upto fnCopyBufferStagesSpec)) fnCopyBufferStagesUptoCard

/-- THE SECOND FORM's CARD OF 'laws.FnCopyBufferTwo'. -/
def fnCopyBufferTwoUptoCard : Claim7 := { stood := { row := fnCopyBufferTwoUptoRow, standIns := [], harness := (true, "c2a08052f04ad628af2484b33c84f7b99cdf9b72c320b9708c9c94857fbd3793"), looks := true }, kinds := [], alts := [], laidByText := true, laidKinds := [.sentinel, .sentinel, .sentinel, .sentinel, .sentinel], laidTests := true, laidLooks := .later }
def FnCopyBufferTwoUptoCardSaid : Prop := Claim7.holds Tryd.pinned (.plain (OpenSpec.upto fnCopyBufferTwoSpec)) fnCopyBufferTwoUptoCard

/-- THE SECOND FORM's CARD OF 'laws.FnCopyBufferUnused'. -/
def fnCopyBufferUnusedUptoCard : Claim7 := { stood := { row := fnCopyBufferUnusedUptoRow, standIns := [], harness := (true, "c2a08052f04ad628af2484b33c84f7b99cdf9b72c320b9708c9c94857fbd3793"), looks := true }, kinds := [], alts := [], laidByText := true, laidKinds := [.sentinel, .sentinel, .sentinel, .sentinel, .sentinel], laidTests := true, laidLooks := .later }
def FnCopyBufferUnusedUptoCardSaid : Prop := Claim7.holds Tryd.pinned (.plain (OpenSpec.upto fnCopyBufferUnusedSpec)) fnCopyBufferUnusedUptoCard
end Rows
end Go.Proofs.YtnbhhckempbimaaDoor
