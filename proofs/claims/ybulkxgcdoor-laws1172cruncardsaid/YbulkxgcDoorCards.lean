/-
  DERIVED. GIVEN WITH THE SEED: THE CARDS: each row of YbulkxgcDoorRows.lean that lists a variable, with what it lists TIED to the program's text (the seventh form; the later family's looks); each row that meets fmt, with fmt's text TOLD by the authors' own Lean function (tested against real Go, not proved from fmt's source: count such statements apart). THE CARD IS WHAT COUNTS. Prove the row's statement (the work); the ties are given (YbulkxgcDoorTie.lean); close each card by the builder's one call (the guide's Derived/Test/ToyasCard.lean, 'card_holds'). Laid BY PROGRAM, IN A SANDBOX (cutbox-door.mjs). By AI agents, Wed Nov 11 2026. No macro, syntax, notation, axiom, sorry.
-/
import Derived.Test.YbulkxgcDoorRows
import GoSem.ClaimSeven
namespace Go.Proofs.YbulkxgcDoor
namespace Rows

/-- THE TIED CARD OF 'query.LawS1172CRun'. -/
def lawS1172CRunCard : Claim7 := { stood := { row := lawS1172CRunRow, standIns := [], harness := (true, "b19f44883e6092e93087cc58a49c3c711367bad797ee81eb5771d5880d7c9d77"), looks := false }, kinds := [], alts := [], laidByText := true, laidKinds := [.called, .widerDeep, .widerDeep], laidTests := true, laidLooks := .later }
def LawS1172CRunCardSaid : Prop := Claim7.holds Ybad.pinned (.plain (OpenSpec.ofChange lawS1172CRunSpec)) lawS1172CRunCard

/-- THE TIED CARD OF 'query.LawS1172CPlain'. -/
def lawS1172CPlainCard : Claim7 := { stood := { row := lawS1172CPlainRow, standIns := [], harness := (true, "b19f44883e6092e93087cc58a49c3c711367bad797ee81eb5771d5880d7c9d77"), looks := false }, kinds := [], alts := [], laidByText := true, laidKinds := [.called, .widerDeep, .widerDeep], laidTests := true, laidLooks := .later }
def LawS1172CPlainCardSaid : Prop := Claim7.holds Ybad.pinned (.plain (OpenSpec.ofChange lawS1172CPlainSpec)) lawS1172CPlainCard
end Rows
end Go.Proofs.YbulkxgcDoor
