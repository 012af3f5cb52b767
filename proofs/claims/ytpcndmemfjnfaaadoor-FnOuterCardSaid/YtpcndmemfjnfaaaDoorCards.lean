/-
  DERIVED. GIVEN WITH THE SEED: THE CARDS: each row of YtpcndmemfjnfaaaDoorRows.lean that lists a variable, with what it lists TIED to the program's text (the seventh form; the later family's looks); each row that meets fmt, with fmt's text TOLD by the authors' own Lean function (tested against real Go, not proved from fmt's source: count such statements apart). THE CARD IS WHAT COUNTS. Prove the row's statement (the work); the ties are given (YtpcndmemfjnfaaaDoorTie.lean); close each card by the builder's one call (the guide's Derived/Test/ToyasCard.lean, 'card_holds'). Laid BY PROGRAM, IN A SANDBOX (cutbox-door.mjs). By AI agents, Wed Nov 11 2026. No macro, syntax, notation, axiom, sorry.
-/
import Derived.Test.YtpcndmemfjnfaaaDoorRows
import GoSem.ClaimSeven
namespace Go.Proofs.YtpcndmemfjnfaaaDoor
namespace Rows

/-- THE TIED CARD OF 'laws.FnOuter'. -/
def fnOuterCard : Claim7 := { stood := { row := fnOuterRow, standIns := [], harness := (true, "fef5ff9d5ca3ba62acf5ca617e179b1dffe47e536be9566f3bb3b68ff4105472"), looks := true }, kinds := [], alts := [], laidByText := true, laidKinds := [.sentinel], laidTests := true, laidLooks := .later }
def FnOuterCardSaid : Prop := Claim7.holds Tryd.pinned (.plain (OpenSpec.ofChange fnOuterSpec)) fnOuterCard

/-- THE SECOND FORM's CARD OF 'laws.FnOuter'. -/
def fnOuterUptoCard : Claim7 := { stood := { row := fnOuterUptoRow, standIns := [], harness := (true, "fef5ff9d5ca3ba62acf5ca617e179b1dffe47e536be9566f3bb3b68ff4105472"), looks := true }, kinds := [], alts := [], laidByText := true, laidKinds := [.sentinel], laidTests := true, laidLooks := .later }
def FnOuterUptoCardSaid : Prop := Claim7.holds Tryd.pinned (.plain (OpenSpec.upto fnOuterSpec)) fnOuterUptoCard
end Rows
end Go.Proofs.YtpcndmemfjnfaaaDoor
