/-
  DERIVED. GIVEN WITH THE SEED: THE CARDS: each row of YtnmdjhkeekhfbaaDoorRows.lean that lists a variable, with what it lists TIED to the program's text (the seventh form; the later family's looks); each row that meets fmt, with fmt's text TOLD by the authors' own Lean function (tested against real Go, not proved from fmt's source: count such statements apart). THE CARD IS WHAT COUNTS. Prove the row's statement (the work); the ties are given (YtnmdjhkeekhfbaaDoorTie.lean); close each card by the builder's one call (the guide's Derived/Test/ToyasCard.lean, 'card_holds'). Laid BY PROGRAM, IN A SANDBOX (cutbox-door.mjs). By AI agents, Wed Nov 11 2026. No macro, syntax, notation, axiom, sorry.
-/
import Derived.Test.YtnmdjhkeekhfbaaDoorRows
import GoSem.ClaimSeven
namespace Go.Proofs.YtnmdjhkeekhfbaaDoor
namespace Rows

/-- THE TIED CARD OF 'laws.FnOffsetApart'. -/
def fnOffsetApartCard : Claim7 := { stood := { row := fnOffsetApartRow, standIns := [], harness := (true, "366da6f09b2d2a225427a567fc3727d5d9a6b0b76551d6e6851ab09266a0d60f"), looks := true }, kinds := [], alts := [], laidByText := true, laidKinds := [.sentinel, .sentinel, .sentinel, .sentinel, .sentinel, .sentinel], laidTests := true, laidLooks := .later }
def FnOffsetApartCardSaid : Prop := Claim7.holds Tryd.pinned (.plain (OpenSpec.ofChange fnOffsetApartSpec)) fnOffsetApartCard

/-- THE TIED CARD OF 'laws.FnOffsetAt'. -/
def fnOffsetAtCard : Claim7 := { stood := { row := fnOffsetAtRow, standIns := [], harness := (true, "366da6f09b2d2a225427a567fc3727d5d9a6b0b76551d6e6851ab09266a0d60f"), looks := true }, kinds := [], alts := [], laidByText := true, laidKinds := [.sentinel, .sentinel, .sentinel, .sentinel, .sentinel, .sentinel], laidTests := true, laidLooks := .later }
def FnOffsetAtCardSaid : Prop := Claim7.holds Tryd.pinned (.plain (OpenSpec.ofChange fnOffsetAtSpec)) fnOffsetAtCard

/-- THE TIED CARD OF 'laws.FnOffsetBases'. -/
def fnOffsetBasesCard : Claim7 := { stood := { row := fnOffsetBasesRow, standIns := [], harness := (true, "366da6f09b2d2a225427a567fc3727d5d9a6b0b76551d6e6851ab09266a0d60f"), looks := true }, kinds := [], alts := [], laidByText := true, laidKinds := [.sentinel, .sentinel, .sentinel, .sentinel, .sentinel, .sentinel], laidTests := true, laidLooks := .later }
def FnOffsetBasesCardSaid : Prop := Claim7.holds Tryd.pinned (.plain (OpenSpec.ofChange fnOffsetBasesSpec)) fnOffsetBasesCard

/-- THE TIED CARD OF 'laws.FnOffsetBefore'. -/
def fnOffsetBeforeCard : Claim7 := { stood := { row := fnOffsetBeforeRow, standIns := [], harness := (true, "366da6f09b2d2a225427a567fc3727d5d9a6b0b76551d6e6851ab09266a0d60f"), looks := true }, kinds := [], alts := [], laidByText := true, laidKinds := [.sentinel, .sentinel, .sentinel, .sentinel, .sentinel, .sentinel], laidTests := true, laidLooks := .later }
def FnOffsetBeforeCardSaid : Prop := Claim7.holds Tryd.pinned (.plain (OpenSpec.ofChange fnOffsetBeforeSpec)) fnOffsetBeforeCard

/-- THE TIED CARD OF 'laws.FnOffsetCurrent'. -/
def fnOffsetCurrentCard : Claim7 := { stood := { row := fnOffsetCurrentRow, standIns := [], harness := (true, "366da6f09b2d2a225427a567fc3727d5d9a6b0b76551d6e6851ab09266a0d60f"), looks := true }, kinds := [], alts := [], laidByText := true, laidKinds := [.sentinel, .sentinel, .sentinel, .sentinel, .sentinel, .sentinel], laidTests := true, laidLooks := .later }
def FnOffsetCurrentCardSaid : Prop := Claim7.holds Tryd.pinned (.plain (OpenSpec.ofChange fnOffsetCurrentSpec)) fnOffsetCurrentCard

/-- THE TIED CARD OF 'laws.FnOffsetNegative'. -/
def fnOffsetNegativeCard : Claim7 := { stood := { row := fnOffsetNegativeRow, standIns := [], harness := (true, "366da6f09b2d2a225427a567fc3727d5d9a6b0b76551d6e6851ab09266a0d60f"), looks := true }, kinds := [], alts := [], laidByText := true, laidKinds := [.sentinel, .sentinel, .sentinel, .sentinel, .sentinel, .sentinel], laidTests := true, laidLooks := .later }
def FnOffsetNegativeCardSaid : Prop := Claim7.holds Tryd.pinned (.plain (OpenSpec.ofChange fnOffsetNegativeSpec)) fnOffsetNegativeCard

/-- THE TIED CARD OF 'laws.FnOffsetRoads'. -/
def fnOffsetRoadsCard : Claim7 := { stood := { row := fnOffsetRoadsRow, standIns := [], harness := (true, "366da6f09b2d2a225427a567fc3727d5d9a6b0b76551d6e6851ab09266a0d60f"), looks := true }, kinds := [], alts := [], laidByText := true, laidKinds := [.sentinel, .sentinel, .sentinel, .sentinel, .sentinel, .sentinel], laidTests := true, laidLooks := .later }
def FnOffsetRoadsCardSaid : Prop := Claim7.holds Tryd.pinned (.plain (OpenSpec.ofChange fnOffsetRoadsSpec)) fnOffsetRoadsCard

/-- THE TIED CARD OF 'laws.FnOffsetScript'. -/
def fnOffsetScriptCard : Claim7 := { stood := { row := fnOffsetScriptRow, standIns := [], harness := (true, "366da6f09b2d2a225427a567fc3727d5d9a6b0b76551d6e6851ab09266a0d60f"), looks := true }, kinds := [], alts := [], laidByText := true, laidKinds := [.sentinel, .sentinel, .sentinel, .sentinel, .sentinel, .sentinel], laidTests := true, laidLooks := .later }
def FnOffsetScriptCardSaid : Prop := Claim7.holds Tryd.pinned (.plain (OpenSpec.ofChange fnOffsetScriptSpec)) fnOffsetScriptCard

/-- THE TIED CARD OF 'laws.FnOffsetSeek'. -/
def fnOffsetSeekCard : Claim7 := { stood := { row := fnOffsetSeekRow, standIns := [], harness := (true, "366da6f09b2d2a225427a567fc3727d5d9a6b0b76551d6e6851ab09266a0d60f"), looks := true }, kinds := [], alts := [], laidByText := true, laidKinds := [.sentinel, .sentinel, .sentinel, .sentinel, .sentinel, .sentinel], laidTests := true, laidLooks := .later }
def FnOffsetSeekCardSaid : Prop := Claim7.holds Tryd.pinned (.plain (OpenSpec.ofChange fnOffsetSeekSpec)) fnOffsetSeekCard

/-- THE TIED CARD OF 'laws.FnOffsetWhence'. -/
def fnOffsetWhenceCard : Claim7 := { stood := { row := fnOffsetWhenceRow, standIns := [], harness := (true, "366da6f09b2d2a225427a567fc3727d5d9a6b0b76551d6e6851ab09266a0d60f"), looks := true }, kinds := [], alts := [], laidByText := true, laidKinds := [.sentinel, .sentinel, .sentinel, .sentinel, .sentinel, .sentinel], laidTests := true, laidLooks := .later }
def FnOffsetWhenceCardSaid : Prop := Claim7.holds Tryd.pinned (.plain (OpenSpec.ofChange fnOffsetWhenceSpec)) fnOffsetWhenceCard

/-- THE TIED CARD OF 'laws.FnOffsetWrites'. -/
def fnOffsetWritesCard : Claim7 := { stood := { row := fnOffsetWritesRow, standIns := [], harness := (true, "366da6f09b2d2a225427a567fc3727d5d9a6b0b76551d6e6851ab09266a0d60f"), looks := true }, kinds := [], alts := [], laidByText := true, laidKinds := [.sentinel, .sentinel, .sentinel, .sentinel, .sentinel, .sentinel], laidTests := true, laidLooks := .later }
def FnOffsetWritesCardSaid : Prop := Claim7.holds Tryd.pinned (.plain (OpenSpec.ofChange fnOffsetWritesSpec)) fnOffsetWritesCard

/-- THE SECOND FORM's CARD OF 'laws.FnOffsetApart'. -/
def fnOffsetApartUptoCard : Claim7 := { stood := { row := fnOffsetApartUptoRow, standIns := [], harness := (true, "366da6f09b2d2a225427a567fc3727d5d9a6b0b76551d6e6851ab09266a0d60f"), looks := true }, kinds := [], alts := [], laidByText := true, laidKinds := [.sentinel, .sentinel, .sentinel, .sentinel, .sentinel, .sentinel], laidTests := true, laidLooks := .later }
def FnOffsetApartUptoCardSaid : Prop := Claim7.holds Tryd.pinned (.plain (OpenSpec.upto fnOffsetApartSpec)) fnOffsetApartUptoCard

/-- THE SECOND FORM's CARD OF 'laws.FnOffsetAt'. -/
def fnOffsetAtUptoCard : Claim7 := { stood := { row := fnOffsetAtUptoRow, standIns := [], harness := (true, "366da6f09b2d2a225427a567fc3727d5d9a6b0b76551d6e6851ab09266a0d60f"), looks := true }, kinds := [], alts := [], laidByText := true, laidKinds := [.sentinel, .sentinel, .sentinel, .sentinel, .sentinel, .sentinel], laidTests := true, laidLooks := .later }
def FnOffsetAtUptoCardSaid : Prop := Claim7.holds Tryd.pinned (.plain (OpenSpec.upto fnOffsetAtSpec)) fnOffsetAtUptoCard

/-- THE SECOND FORM's CARD OF 'laws.FnOffsetBases'. -/
def fnOffsetBasesUptoCard : Claim7 := { stood := { row := fnOffsetBasesUptoRow, standIns := [], harness := (true, "366da6f09b2d2a225427a567fc3727d5d9a6b0b76551d6e6851ab09266a0d60f"), looks := true }, kinds := [], alts := [], laidByText := true, laidKinds := [.sentinel, .sentinel, .sentinel, .sentinel, .sentinel, .sentinel], laidTests := true, laidLooks := .later }
def FnOffsetBasesUptoCardSaid : Prop := Claim7.holds Tryd.pinned (.plain (OpenSpec.upto fnOffsetBasesSpec)) fnOffsetBasesUptoCard

/-- THE SECOND FORM's CARD OF 'laws.FnOffsetBefore'. -/
def fnOffsetBeforeUptoCard : Claim7 := { stood := { row := fnOffsetBeforeUptoRow, standIns := [], harness := (true, "366da6f09b2d2a225427a567fc3727d5d9a6b0b76551d6e6851ab09266a0d60f"), looks := true }, kinds := [], alts := [], laidByText := true, laidKinds := [.sentinel, .sentinel, .sentinel, .sentinel, .sentinel, .sentinel], laidTests := true, laidLooks := .later }
def FnOffsetBeforeUptoCardSaid : Prop := Claim7.holds Tryd.pinned (.plain (OpenSpec.upto fnOffsetBeforeSpec)) fnOffsetBeforeUptoCard

/-- THE SECOND FORM's CARD OF 'laws.FnOffsetCurrent'. -/
def fnOffsetCurrentUptoCard : Claim7 := { stood := { row := fnOffsetCurrentUptoRow, standIns := [], harness := (true, "366da6f09b2d2a225427a567fc3727d5d9a6b0b76551d6e6851ab09266a0d60f"), looks := true }, kinds := [], alts := [], laidByText := true, laidKinds := [.sentinel, .sentinel, .sentinel, .sentinel, .sentinel, .sentinel], laidTests := true, laidLooks := .later }
def FnOffsetCurrentUptoCardSaid : Prop := Claim7.holds Tryd.pinned (.plain (OpenSpec.upto fnOffsetCurrentSpec)) fnOffsetCurrentUptoCard

/-- THE SECOND FORM's CARD OF 'laws.FnOffsetNegative'. -/
def fnOffsetNegativeUptoCard : Claim7 := { stood := { row := fnOffsetNegativeUptoRow, standIns := [], harness := (true, "366da6f09b2d2a225427a567fc3727d5d9a6b0b76551d6e6851ab09266a0d60f"), looks := true }, kinds := [], alts := [], laidByText := true, laidKinds := [.sentinel, .sentinel, .sentinel, .sentinel, .sentinel, .sentinel], laidTests := true, laidLooks := .later }
def FnOffsetNegativeUptoCardSaid : Prop := Claim7.holds Tryd.pinned (.plain (OpenSpec.upto fnOffsetNegativeSpec)) fnOffsetNegativeUptoCard

/-- THE SECOND FORM's CARD OF 'laws.FnOffsetRoads'. -/
def fnOffsetRoadsUptoCard : Claim7 := { stood := { row := fnOffsetRoadsUptoRow, standIns := [], harness := (true, "366da6f09b2d2a225427a567fc3727d5d9a6b0b76551d6e6851ab09266a0d60f"), looks := true }, kinds := [], alts := [], laidByText := true, laidKinds := [.sentinel, .sentinel, .sentinel, .sentinel, .sentinel, .sentinel], laidTests := true, laidLooks := .later }
def FnOffsetRoadsUptoCardSaid : Prop := Claim7.holds Tryd.pinned (.plain (OpenSpec.upto fnOffsetRoadsSpec)) fnOffsetRoadsUptoCard

/-- THE SECOND FORM's CARD OF 'laws.FnOffsetScript'. -/
def fnOffsetScriptUptoCard : Claim7 := { stood := { row := fnOffsetScriptUptoRow, standIns := [], harness := (true, "366da6f09b2d2a225427a567fc3727d5d9a6b0b76551d6e6851ab09266a0d60f"), looks := true }, kinds := [], alts := [], laidByText := true, laidKinds := [.sentinel, .sentinel, .sentinel, .sentinel, .sentinel, .sentinel], laidTests := true, laidLooks := .later }
def FnOffsetScriptUptoCardSaid : Prop := Claim7.holds Tryd.pinned (.plain (OpenSpec.upto fnOffsetScriptSpec)) fnOffsetScriptUptoCard

/-- THE SECOND FORM's CARD OF 'laws.FnOffsetSeek'. -/
def fnOffsetSeekUptoCard : Claim7 := { stood := { row := fnOffsetSeekUptoRow, standIns := [], harness := (true, "366da6f09b2d2a225427a567fc3727d5d9a6b0b76551d6e6851ab09266a0d60f"), looks := true }, kinds := [], alts := [], laidByText := true, laidKinds := [.sentinel, .sentinel, .sentinel, .sentinel, .sentinel, .sentinel], laidTests := true, laidLooks := .later }
def FnOffsetSeekUptoCardSaid : Prop := Claim7.holds Tryd.pinned (.plain (OpenSpec.upto fnOffsetSeekSpec)) fnOffsetSeekUptoCard

/-- THE SECOND FORM's CARD OF 'laws.FnOffsetWhence'. -/
def fnOffsetWhenceUptoCard : Claim7 := { stood := { row := fnOffsetWhenceUptoRow, standIns := [], harness := (true, "366da6f09b2d2a225427a567fc3727d5d9a6b0b76551d6e6851ab09266a0d60f"), looks := true }, kinds := [], alts := [], laidByText := true, laidKinds := [.sentinel, .sentinel, .sentinel, .sentinel, .sentinel, .sentinel], laidTests := true, laidLooks := .later }
def FnOffsetWhenceUptoCardSaid : Prop := Claim7.holds Tryd.pinned (.plain (OpenSpec.upto fnOffsetWhenceSpec)) fnOffsetWhenceUptoCard

/-- THE SECOND FORM's CARD OF 'laws.FnOffsetWrites'. -/
def fnOffsetWritesUptoCard : Claim7 := { stood := { row := fnOffsetWritesUptoRow, standIns := [], harness := (true, "366da6f09b2d2a225427a567fc3727d5d9a6b0b76551d6e6851ab09266a0d60f"), looks := true }, kinds := [], alts := [], laidByText := true, laidKinds := [.sentinel, .sentinel, .sentinel, .sentinel, .sentinel, .sentinel], laidTests := true, laidLooks := .later }
def FnOffsetWritesUptoCardSaid : Prop := Claim7.holds Tryd.pinned (.plain (OpenSpec.upto fnOffsetWritesSpec)) fnOffsetWritesUptoCard
end Rows
end Go.Proofs.YtnmdjhkeekhfbaaDoor
