/-
  DERIVED. GIVEN WITH THE SEED: THE CARDS: each row of YbulkggoDoorRows.lean that lists a variable, with what it lists TIED to the program's text (the seventh form; the later family's looks); each row that meets fmt, with fmt's text TOLD by the authors' own Lean function (tested against real Go, not proved from fmt's source: count such statements apart). THE CARD IS WHAT COUNTS. Prove the row's statement (the work); the ties are given (YbulkggoDoorTie.lean); close each card by the builder's one call (the guide's Derived/Test/ToyasCard.lean, 'card_holds'). Laid BY PROGRAM, IN A SANDBOX (cutbox-door.mjs). By AI agents, Wed Nov 11 2026. No macro, syntax, notation, axiom, sorry.
-/
import Derived.Test.YbulkggoDoorRows
import GoSem.ClaimSeven
namespace Go.Proofs.YbulkggoDoor
namespace Rows

/-- THE TIED CARD OF 'wire.LawS0352ARoundTrip'. -/
def lawS0352ARoundTripCard : Claim7 := { stood := { row := lawS0352ARoundTripRow, standIns := [], harness := (true, "c3b1d2b750b44f92bc8f4ab56ee25c10a2d755c1c849a3c9952f238696ac1448"), looks := true }, kinds := [], alts := [], laidByText := true, laidKinds := [.sentinel, .sentinel], laidTests := true, laidLooks := .later }
def LawS0352ARoundTripCardSaid : Prop := Claim7.holds Ybad.pinned (.plain (OpenSpec.ofChange lawS0352ARoundTripSpec)) lawS0352ARoundTripCard

/-- THE TIED CARD OF 'wire.LawS0352AModel'. -/
def lawS0352AModelCard : Claim7 := { stood := { row := lawS0352AModelRow, standIns := [], harness := (true, "c3b1d2b750b44f92bc8f4ab56ee25c10a2d755c1c849a3c9952f238696ac1448"), looks := true }, kinds := [], alts := [], laidByText := true, laidKinds := [.sentinel, .sentinel], laidTests := true, laidLooks := .later }
def LawS0352AModelCardSaid : Prop := Claim7.holds Ybad.pinned (.plain (OpenSpec.ofChange lawS0352AModelSpec)) lawS0352AModelCard
end Rows
end Go.Proofs.YbulkggoDoor
