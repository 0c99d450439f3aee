/-
  No cell of these rows narrows 'for every input' (looked for: loops, veiled, ifaces, maps, wideKeys, modest, calm, conditions, laid).
  DERIVED. THE GIVEN ROWS OF THIS SEAT. 4 by the template 'for every input the law returns true; each argument reads behind the call as it read before'; 0 by the template 'total and deterministic' (their statements: YbulkgeyTotals.lean).
  GIVEN WITH THE SEED: the statements are not yours to turn. If you find one false, say at which input.
  Laid BY PROGRAM, IN A SANDBOX (cutbox-rows.mjs): the forced cells as the released guide's own fill.sh prints them over the translation ca046c629763e010… (all of the seat's roots in one cut). By AI agents, Wed Nov 11 2026. No macro, syntax, notation, axiom, sorry.
-/
import Derived.Test.YbulkgeyChecked
import GoSem.Claim
import GoSem.ClaimJoined
import GoSem.ClaimMapViews
import Derived.JoinedTies
import Derived.KernelRfl
namespace Go.Proofs.Ybulkgey
/- THE CELL 'sum', in the pinned program and in every row, IS THE sha256 OF THE DUMP (.gsa) THAT YbulkgeyProg.lean LOADS. Nothing in Lean hashes anything: it is a label: what it is worth is what the hold of that sum in a sandbox is worth. -/
noncomputable def Yba.pinned : Pinned := { name := "ybulkgey", sum := "ca046c629763e010ac2d61acdcadc8c10c0bf24fb2f066bedaed076668894a21", checked := Yba.checked }
namespace Rows
def none {H : Type} : Left H := { results := [], args := [] }

/-- 'beforehand.LawS0349AExact': WHATEVER THE INPUT: true; the input reads as it did. -/
def lawS0349AExactSpec : ChangeSpec := { name := "lawS0349AExact", fn := fun _ => fun
  | [d1, d2, d3, d4] => { results := [.lit (.bool true)], args := [d1, d2, d3, d4] }
  | _ => none }
def lawS0349AExactRow : OpenClaim := { program := "ybulkgey", sum := "ca046c629763e010ac2d61acdcadc8c10c0bf24fb2f066bedaed076668894a21", func := "example.com/beforehand/beforehand.LawS0349AExact", spec := "lawS0349AExact", inPlace := ["internal/bytealg.abigen_runtime_cmpstring", "internal/abi.NoEscape", "internal/bytealg.MakeNoZero"], unfollowed := true, recurses := true, apart := false }
def LawS0349AExactSaid : Prop := lawS0349AExactRow.holds Yba.pinned (OpenSpec.ofChange lawS0349AExactSpec)

/-- ITS FALSE NEIGHBOUR: 'it returns false'. Refute it at one input. -/
def lawS0349AExactWrong : ChangeSpec := { name := "lawS0349AExact", fn := fun _ => fun
  | [d1, d2, d3, d4] => { results := [.lit (.bool false)], args := [d1, d2, d3, d4] }
  | _ => none }
def LawS0349AExactWrongFalsely : Prop := lawS0349AExactRow.holds Yba.pinned (OpenSpec.ofChange lawS0349AExactWrong)

/-- 'beforehand.LawS0349ACommIdem': WHATEVER THE INPUT: true; the input reads as it did. -/
def lawS0349ACommIdemSpec : ChangeSpec := { name := "lawS0349ACommIdem", fn := fun _ => fun
  | [d1, d2, d3, d4] => { results := [.lit (.bool true)], args := [d1, d2, d3, d4] }
  | _ => none }
def lawS0349ACommIdemRow : OpenClaim := { program := "ybulkgey", sum := "ca046c629763e010ac2d61acdcadc8c10c0bf24fb2f066bedaed076668894a21", func := "example.com/beforehand/beforehand.LawS0349ACommIdem", spec := "lawS0349ACommIdem", inPlace := ["internal/bytealg.abigen_runtime_cmpstring", "internal/abi.NoEscape", "internal/bytealg.MakeNoZero"], unfollowed := true, recurses := true, apart := false }
def LawS0349ACommIdemSaid : Prop := lawS0349ACommIdemRow.holds Yba.pinned (OpenSpec.ofChange lawS0349ACommIdemSpec)

/-- ITS FALSE NEIGHBOUR: 'it returns false'. Refute it at one input. -/
def lawS0349ACommIdemWrong : ChangeSpec := { name := "lawS0349ACommIdem", fn := fun _ => fun
  | [d1, d2, d3, d4] => { results := [.lit (.bool false)], args := [d1, d2, d3, d4] }
  | _ => none }
def LawS0349ACommIdemWrongFalsely : Prop := lawS0349ACommIdemRow.holds Yba.pinned (OpenSpec.ofChange lawS0349ACommIdemWrong)

/-- 'beforehand.LawS0349BExact': WHATEVER THE INPUT: true; the input reads as it did. -/
def lawS0349BExactSpec : ChangeSpec := { name := "lawS0349BExact", fn := fun _ => fun
  | [d1, d2, d3, d4, d5] => { results := [.lit (.bool true)], args := [d1, d2, d3, d4, d5] }
  | _ => none }
def lawS0349BExactRow : OpenClaim := { program := "ybulkgey", sum := "ca046c629763e010ac2d61acdcadc8c10c0bf24fb2f066bedaed076668894a21", func := "example.com/beforehand/beforehand.LawS0349BExact", spec := "lawS0349BExact", inPlace := ["internal/abi.NoEscape", "internal/bytealg.MakeNoZero"], apart := false }
def LawS0349BExactSaid : Prop := lawS0349BExactRow.holds Yba.pinned (OpenSpec.ofChange lawS0349BExactSpec)

/-- ITS FALSE NEIGHBOUR: 'it returns false'. Refute it at one input. -/
def lawS0349BExactWrong : ChangeSpec := { name := "lawS0349BExact", fn := fun _ => fun
  | [d1, d2, d3, d4, d5] => { results := [.lit (.bool false)], args := [d1, d2, d3, d4, d5] }
  | _ => none }
def LawS0349BExactWrongFalsely : Prop := lawS0349BExactRow.holds Yba.pinned (OpenSpec.ofChange lawS0349BExactWrong)

/-- 'beforehand.LawS0349BKeepsInput': WHATEVER THE INPUT: true; the input reads as it did. -/
def lawS0349BKeepsInputSpec : ChangeSpec := { name := "lawS0349BKeepsInput", fn := fun _ => fun
  | [d1, d2, d3, d4, d5] => { results := [.lit (.bool true)], args := [d1, d2, d3, d4, d5] }
  | _ => none }
def lawS0349BKeepsInputRow : OpenClaim := { program := "ybulkgey", sum := "ca046c629763e010ac2d61acdcadc8c10c0bf24fb2f066bedaed076668894a21", func := "example.com/beforehand/beforehand.LawS0349BKeepsInput", spec := "lawS0349BKeepsInput", inPlace := ["internal/abi.NoEscape", "internal/bytealg.MakeNoZero"], apart := false }
def LawS0349BKeepsInputSaid : Prop := lawS0349BKeepsInputRow.holds Yba.pinned (OpenSpec.ofChange lawS0349BKeepsInputSpec)

/-- ITS FALSE NEIGHBOUR: 'it returns false'. Refute it at one input. -/
def lawS0349BKeepsInputWrong : ChangeSpec := { name := "lawS0349BKeepsInput", fn := fun _ => fun
  | [d1, d2, d3, d4, d5] => { results := [.lit (.bool false)], args := [d1, d2, d3, d4, d5] }
  | _ => none }
def LawS0349BKeepsInputWrongFalsely : Prop := lawS0349BKeepsInputRow.holds Yba.pinned (OpenSpec.ofChange lawS0349BKeepsInputWrong)

end Rows
end Go.Proofs.Ybulkgey
