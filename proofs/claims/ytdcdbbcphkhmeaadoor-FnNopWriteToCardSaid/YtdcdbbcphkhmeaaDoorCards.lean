/-
  DERIVED. GIVEN WITH THE SEED: THE CARDS: each row of YtdcdbbcphkhmeaaDoorRows.lean that lists a variable, with what it lists TIED to the program's text (the seventh form; the later family's looks); each row that meets fmt, with fmt's text TOLD by the authors' own Lean function (tested against real Go, not proved from fmt's source: count such statements apart). THE CARD IS WHAT COUNTS. Prove the row's statement (the work); the ties are given (YtdcdbbcphkhmeaaDoorTie.lean); close each card by the builder's one call (the guide's Derived/Test/ToyasCard.lean, 'card_holds'). Laid BY PROGRAM, IN A SANDBOX (cutbox-door.mjs). By AI agents, Wed Nov 11 2026. No macro, syntax, notation, axiom, sorry.
-/
import Derived.Test.YtdcdbbcphkhmeaaDoorRows
import GoSem.ClaimSeven
namespace Go.Proofs.YtdcdbbcphkhmeaaDoor
namespace Rows

/-- THE TIED CARD OF 'laws.FnNopReads'. -/
def fnNopReadsCard : Claim7 := { stood := { row := fnNopReadsRow, standIns := [], harness := (true, "c429ebae083bc193b1e073e4883fba9c353189e6ea1f8f559a702be689524bf1"), looks := true }, kinds := [], alts := [], laidByText := true, laidKinds := [.sentinel, .sentinel, .sentinel, .sentinel], laidTests := true, laidLooks := .later }
def FnNopReadsCardSaid : Prop := Claim7.holds Tryd.pinned (.plain (OpenSpec.ofChange fnNopReadsSpec)) fnNopReadsCard

/-- THE TIED CARD OF 'laws.FnNopRest'. -/
def fnNopRestCard : Claim7 := { stood := { row := fnNopRestRow, standIns := [], harness := (true, "c429ebae083bc193b1e073e4883fba9c353189e6ea1f8f559a702be689524bf1"), looks := true }, kinds := [], alts := [], laidByText := true, laidKinds := [.sentinel, .sentinel, .sentinel, .sentinel], laidTests := true, laidLooks := .later }
def FnNopRestCardSaid : Prop := Claim7.holds Tryd.pinned (.plain (OpenSpec.ofChange fnNopRestSpec)) fnNopRestCard

/-- THE TIED CARD OF 'laws.FnNopWriteTo'. -/
def fnNopWriteToCard : Claim7 := { stood := { row := fnNopWriteToRow, standIns := [], harness := (true, "c429ebae083bc193b1e073e4883fba9c353189e6ea1f8f559a702be689524bf1"), looks := true }, kinds := [], alts := [], laidByText := true, laidKinds := [.sentinel, .sentinel, .sentinel, .sentinel], laidTests := true, laidLooks := .later }
def FnNopWriteToCardSaid : Prop := Claim7.holds Tryd.pinned (.plain (OpenSpec.ofChange fnNopWriteToSpec)) fnNopWriteToCard

/-- THE TIED CARD OF 'laws.FnNopClose'. -/
def fnNopCloseCard : Claim7 := { stood := { row := fnNopCloseRow, standIns := [], harness := (true, "c429ebae083bc193b1e073e4883fba9c353189e6ea1f8f559a702be689524bf1"), looks := true }, kinds := [], alts := [], laidByText := true, laidKinds := [.sentinel, .sentinel, .sentinel, .sentinel], laidTests := true, laidLooks := .later }
def FnNopCloseCardSaid : Prop := Claim7.holds Tryd.pinned (.plain (OpenSpec.ofChange fnNopCloseSpec)) fnNopCloseCard

/-- THE SECOND FORM's CARD OF 'laws.FnNopReads'. -/
def fnNopReadsUptoCard : Claim7 := { stood := { row := fnNopReadsUptoRow, standIns := [], harness := (true, "c429ebae083bc193b1e073e4883fba9c353189e6ea1f8f559a702be689524bf1"), looks := true }, kinds := [], alts := [], laidByText := true, laidKinds := [.sentinel, .sentinel, .sentinel, .sentinel], laidTests := true, laidLooks := .later }
def FnNopReadsUptoCardSaid : Prop := Claim7.holds Tryd.pinned (.plain (OpenSpec.upto fnNopReadsSpec)) fnNopReadsUptoCard

/-- THE SECOND FORM's CARD OF 'laws.FnNopRest'. -/
def fnNopRestUptoCard : Claim7 := { stood := { row := fnNopRestUptoRow, standIns := [], harness := (true, "c429ebae083bc193b1e073e4883fba9c353189e6ea1f8f559a702be689524bf1"), looks := true }, kinds := [], alts := [], laidByText := true, laidKinds := [.sentinel, .sentinel, .sentinel, .sentinel], laidTests := true, laidLooks := .later }
def FnNopRestUptoCardSaid : Prop := Claim7.holds Tryd.pinned (.plain (OpenSpec.upto fnNopRestSpec)) fnNopRestUptoCard

/-- THE SECOND FORM's CARD OF 'laws.FnNopWriteTo'. -/
def fnNopWriteToUptoCard : Claim7 := { stood := { row := fnNopWriteToUptoRow, standIns := [], harness := (true, "c429ebae083bc193b1e073e4883fba9c353189e6ea1f8f559a702be689524bf1"), looks := true }, kinds := [], alts := [], laidByText := true, laidKinds := [.sentinel, .sentinel, .sentinel, .sentinel], laidTests := true, laidLooks := .later }
def FnNopWriteToUptoCardSaid : Prop := Claim7.holds Tryd.pinned (.plain (OpenSpec.upto fnNopWriteToSpec)) fnNopWriteToUptoCard

/-- THE SECOND FORM's CARD OF 'laws.FnNopClose'. -/
def fnNopCloseUptoCard : Claim7 := { stood := { row := fnNopCloseUptoRow, standIns := [], harness := (true, "c429ebae083bc193b1e073e4883fba9c353189e6ea1f8f559a702be689524bf1"), looks := true }, kinds := [], alts := [], laidByText := true, laidKinds := [.sentinel, .sentinel, .sentinel, .sentinel], laidTests := true, laidLooks := .later }
def FnNopCloseUptoCardSaid : Prop := Claim7.holds Tryd.pinned (.plain (OpenSpec.upto fnNopCloseSpec)) fnNopCloseUptoCard
end Rows
end Go.Proofs.YtdcdbbcphkhmeaaDoor
