/-
  NARROWER THAN 'FOR EVERY INPUT', by the rows' own cells (each row's printed sentence says how): LawS0352ARoundTrip: ifaces, laid · LawS0352AModel: ifaces, laid.
  DERIVED. THE GIVEN ROWS OF THIS SEAT. 2 by the template 'for every input the law returns true; each argument reads behind the call as it read before'; 0 by the template 'total and deterministic' (their statements: YbulkggoDoorTotals.lean).
  GIVEN WITH THE SEED: the statements are not yours to turn. If you find one false, say at which input.
  Laid BY PROGRAM, IN A SANDBOX (cutbox-rows.mjs): the forced cells as the released guide's own fill.sh prints them over the translation 069d399e429c23d3… (all of the seat's roots in one cut). By AI agents, Wed Nov 11 2026. No macro, syntax, notation, axiom, sorry.
-/
import Derived.Test.YbulkggoDoorChecked
import GoSem.Claim
import GoSem.ClaimJoined
import GoSem.ClaimMapViews
import Derived.JoinedTies
import Derived.KernelRfl
namespace Go.Proofs.YbulkggoDoor
/- THE CELL 'sum', in the pinned program and in every row, IS THE sha256 OF THE DUMP (.gsa) THAT YbulkggoDoorProg.lean LOADS. Nothing in Lean hashes anything: it is a label: what it is worth is what the hold of that sum in a sandbox is worth. -/
noncomputable def Ybad.pinned : Pinned := { name := "ybulkggodoor", sum := "069d399e429c23d3fa066cd733cbe917e8b0a80be49da783529adf2a7ed9c2a9", checked := Ybad.checked }
namespace Rows
def none {H : Type} : Left H := { results := [], args := [] }

/- WHAT THE LISTED PACKAGE-LEVEL VARIABLES READ AS WHEN THE CALL BEGINS. Each datum BY PROGRAM (the guide's laid-datum.mjs) off the statement by which the dump's own 'gosem.cut.vars' lays the variable. In a bare row this is a premise. The card (YbulkggoDoorCards.lean) ties it to the program's text. -/
def laid_example_com_quickquorum_quickquorum_internal_wire_errShort {H : Type} : DataW H := .iface "*errors.errorString" (.ptr (.agg [.lit (.string [102, 114, 97, 109, 101, 32, 101, 110, 100, 115, 32, 105, 110, 115, 105, 100, 101, 32, 97, 32, 102, 105, 101, 108, 100])]))
def laid_example_com_quickquorum_quickquorum_internal_wire_errPadded {H : Type} : DataW H := .iface "*errors.errorString" (.ptr (.agg [.lit (.string [119, 104, 111, 108, 101, 32, 110, 117, 109, 98, 101, 114, 32, 112, 97, 100, 100, 101, 100, 32, 119, 105, 116, 104, 32, 122, 101, 114, 111, 32, 98, 121, 116, 101, 115])]))

/-- 'wire.LawS0352ARoundTrip': WHATEVER THE INPUT: true; the input reads as it did. -/
def lawS0352ARoundTripSpec : ChangeSpec := { name := "lawS0352ARoundTrip", vars := ["example.com/quickquorum/quickquorum/internal/wire.errShort", "example.com/quickquorum/quickquorum/internal/wire.errPadded"], fn := fun _ => fun
  | [d1, d2, g1, g2] => { results := [.lit (.bool true)], args := [d1, d2], vars := [g1, g2] }
  | _ => none }
def lawS0352ARoundTripRow : OpenClaim := { program := "ybulkggodoor", sum := "069d399e429c23d3fa066cd733cbe917e8b0a80be49da783529adf2a7ed9c2a9", func := "example.com/quickquorum/quickquorum/internal/wire.LawS0352ARoundTrip", spec := "lawS0352ARoundTrip", named := ["example.com/quickquorum/quickquorum/internal/wire.errShort", "example.com/quickquorum/quickquorum/internal/wire.errPadded"], ifaces := true, apart := false, laid := [("example.com/quickquorum/quickquorum/internal/wire.errShort", laid_example_com_quickquorum_quickquorum_internal_wire_errShort), ("example.com/quickquorum/quickquorum/internal/wire.errPadded", laid_example_com_quickquorum_quickquorum_internal_wire_errPadded)] }
def LawS0352ARoundTripSaid : Prop := lawS0352ARoundTripRow.holds Ybad.pinned (OpenSpec.ofChange lawS0352ARoundTripSpec)

/-- ITS FALSE NEIGHBOUR: 'it returns false'. Refute it at one input. -/
def lawS0352ARoundTripWrong : ChangeSpec := { name := "lawS0352ARoundTrip", vars := ["example.com/quickquorum/quickquorum/internal/wire.errShort", "example.com/quickquorum/quickquorum/internal/wire.errPadded"], fn := fun _ => fun
  | [d1, d2, g1, g2] => { results := [.lit (.bool false)], args := [d1, d2], vars := [g1, g2] }
  | _ => none }
def LawS0352ARoundTripWrongFalsely : Prop := lawS0352ARoundTripRow.holds Ybad.pinned (OpenSpec.ofChange lawS0352ARoundTripWrong)

/-- 'wire.LawS0352AModel': WHATEVER THE INPUT: true; the input reads as it did. -/
def lawS0352AModelSpec : ChangeSpec := { name := "lawS0352AModel", vars := ["example.com/quickquorum/quickquorum/internal/wire.errPadded", "example.com/quickquorum/quickquorum/internal/wire.errShort"], fn := fun _ => fun
  | [d1, d2, g1, g2] => { results := [.lit (.bool true)], args := [d1, d2], vars := [g1, g2] }
  | _ => none }
def lawS0352AModelRow : OpenClaim := { program := "ybulkggodoor", sum := "069d399e429c23d3fa066cd733cbe917e8b0a80be49da783529adf2a7ed9c2a9", func := "example.com/quickquorum/quickquorum/internal/wire.LawS0352AModel", spec := "lawS0352AModel", named := ["example.com/quickquorum/quickquorum/internal/wire.errPadded", "example.com/quickquorum/quickquorum/internal/wire.errShort"], ifaces := true, apart := false, laid := [("example.com/quickquorum/quickquorum/internal/wire.errShort", laid_example_com_quickquorum_quickquorum_internal_wire_errShort), ("example.com/quickquorum/quickquorum/internal/wire.errPadded", laid_example_com_quickquorum_quickquorum_internal_wire_errPadded)] }
def LawS0352AModelSaid : Prop := lawS0352AModelRow.holds Ybad.pinned (OpenSpec.ofChange lawS0352AModelSpec)

/-- ITS FALSE NEIGHBOUR: 'it returns false'. Refute it at one input. -/
def lawS0352AModelWrong : ChangeSpec := { name := "lawS0352AModel", vars := ["example.com/quickquorum/quickquorum/internal/wire.errPadded", "example.com/quickquorum/quickquorum/internal/wire.errShort"], fn := fun _ => fun
  | [d1, d2, g1, g2] => { results := [.lit (.bool false)], args := [d1, d2], vars := [g1, g2] }
  | _ => none }
def LawS0352AModelWrongFalsely : Prop := lawS0352AModelRow.holds Ybad.pinned (OpenSpec.ofChange lawS0352AModelWrong)

end Rows
end Go.Proofs.YbulkggoDoor
