/-
  DERIVED. GIVEN WITH THE SEED: THE CARDS: each row of YbulkgjuDoorRows.lean that lists a variable, with what it lists TIED to the program's text (the seventh form; the later family's looks); each row that meets fmt, with fmt's text TOLD by the authors' own Lean function (tested against real Go, not proved from fmt's source: count such statements apart). THE CARD IS WHAT COUNTS. Prove the row's statement (the work); the ties are given (YbulkgjuDoorTie.lean); close each card by the builder's one call (the guide's Derived/Test/ToyasCard.lean, 'card_holds'). Laid BY PROGRAM, IN A SANDBOX (cutbox-door.mjs). By AI agents, Wed Nov 11 2026. No macro, syntax, notation, axiom, sorry.
-/
import Derived.Test.YbulkgjuDoorRows
import GoSem.ClaimSeven
namespace Go.Proofs.YbulkgjuDoor
namespace Rows

/-- THE TIED CARD OF 'geo.LawS0358CFields'. -/
def lawS0358CFieldsCard : Claim7 := { stood := { row := lawS0358CFieldsRow, standIns := [], harness := (true, "8276ecb9af2db5ce54dee7c56389d36f0fb6e620cfeeec5d1042319582143697"), looks := false }, kinds := [], alts := [], laidByText := true, laidKinds := [.data, .data, .data], laidTests := true, laidLooks := .later }
def LawS0358CFieldsCardSaid : Prop := Claim7.holds Ybad.pinned (.plain (OpenSpec.ofChange lawS0358CFieldsSpec)) lawS0358CFieldsCard

/-- THE TIED CARD OF 'geo.LawS0358CUnit'. -/
def lawS0358CUnitCard : Claim7 := { stood := { row := lawS0358CUnitRow, standIns := [], harness := (true, "8276ecb9af2db5ce54dee7c56389d36f0fb6e620cfeeec5d1042319582143697"), looks := false }, kinds := [], alts := [], laidByText := true, laidKinds := [.data, .data, .data], laidTests := true, laidLooks := .later }
def LawS0358CUnitCardSaid : Prop := Claim7.holds Ybad.pinned (.plain (OpenSpec.ofChange lawS0358CUnitSpec)) lawS0358CUnitCard
end Rows
end Go.Proofs.YbulkgjuDoor
