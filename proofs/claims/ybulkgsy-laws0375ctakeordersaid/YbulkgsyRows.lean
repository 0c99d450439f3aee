/-
  No cell of these rows narrows 'for every input' (looked for: loops, veiled, ifaces, maps, wideKeys, modest, calm, conditions, laid).
  DERIVED. THE GIVEN ROWS OF THIS SEAT. 1 by the template 'for every input the law returns true; each argument reads behind the call as it read before'; 0 by the template 'total and deterministic' (their statements: YbulkgsyTotals.lean).
  GIVEN WITH THE SEED: the statements are not yours to turn. If you find one false, say at which input.
  Laid BY PROGRAM, IN A SANDBOX (cutbox-rows.mjs): the forced cells as the released guide's own fill.sh prints them over the translation 2ee620de5e5f1dc5… (all of the seat's roots in one cut). By AI agents, Wed Nov 11 2026. No macro, syntax, notation, axiom, sorry.
-/
import Derived.Test.YbulkgsyChecked
import GoSem.Claim
import GoSem.ClaimJoined
import GoSem.ClaimMapViews
import Derived.JoinedTies
import Derived.KernelRfl
namespace Go.Proofs.Ybulkgsy
/- THE CELL 'sum', in the pinned program and in every row, IS THE sha256 OF THE DUMP (.gsa) THAT YbulkgsyProg.lean LOADS. Nothing in Lean hashes anything: it is a label: what it is worth is what the hold of that sum in a sandbox is worth. -/
noncomputable def Yba.pinned : Pinned := { name := "ybulkgsy", sum := "2ee620de5e5f1dc572b8621a536bad3ffdeb1cc9c803d7134c48d18d5a478903", checked := Yba.checked }
namespace Rows
def none {H : Type} : Left H := { results := [], args := [] }

/-- 'pipeline.LawS0375CTakeOrder': WHATEVER THE INPUT: true; the input reads as it did. -/
def lawS0375CTakeOrderSpec : ChangeSpec := { name := "lawS0375CTakeOrder", fn := fun _ => fun
  | [d1, d2] => { results := [.lit (.bool true)], args := [d1, d2] }
  | _ => none }
def lawS0375CTakeOrderRow : OpenClaim := { program := "ybulkgsy", sum := "2ee620de5e5f1dc572b8621a536bad3ffdeb1cc9c803d7134c48d18d5a478903", func := "example.com/berthing/berthing/pipeline.LawS0375CTakeOrder", spec := "lawS0375CTakeOrder", apart := false }
def LawS0375CTakeOrderSaid : Prop := lawS0375CTakeOrderRow.holds Yba.pinned (OpenSpec.ofChange lawS0375CTakeOrderSpec)

/-- ITS FALSE NEIGHBOUR: 'it returns false'. Refute it at one input. -/
def lawS0375CTakeOrderWrong : ChangeSpec := { name := "lawS0375CTakeOrder", fn := fun _ => fun
  | [d1, d2] => { results := [.lit (.bool false)], args := [d1, d2] }
  | _ => none }
def LawS0375CTakeOrderWrongFalsely : Prop := lawS0375CTakeOrderRow.holds Yba.pinned (OpenSpec.ofChange lawS0375CTakeOrderWrong)

end Rows
end Go.Proofs.Ybulkgsy
