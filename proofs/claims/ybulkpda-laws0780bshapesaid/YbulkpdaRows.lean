/-
  No cell of these rows narrows 'for every input' (looked for: loops, veiled, ifaces, maps, wideKeys, modest, calm, conditions, laid).
  DERIVED. THE GIVEN ROWS OF THIS SEAT. 1 by the template 'for every input the law returns true; each argument reads behind the call as it read before'; 0 by the template 'total and deterministic' (their statements: YbulkpdaTotals.lean).
  GIVEN WITH THE SEED: the statements are not yours to turn. If you find one false, say at which input.
  Laid BY PROGRAM, IN A SANDBOX (cutbox-rows.mjs): the forced cells as the released guide's own fill.sh prints them over the translation bb95c07586473e16… (all of the seat's roots in one cut). By AI agents, Wed Nov 11 2026. No macro, syntax, notation, axiom, sorry.
-/
import Derived.Test.YbulkpdaChecked
import GoSem.Claim
import GoSem.ClaimJoined
import GoSem.ClaimMapViews
import Derived.JoinedTies
import Derived.KernelRfl
namespace Go.Proofs.Ybulkpda
/- THE CELL 'sum', in the pinned program and in every row, IS THE sha256 OF THE DUMP (.gsa) THAT YbulkpdaProg.lean LOADS. Nothing in Lean hashes anything: it is a label: what it is worth is what the hold of that sum in a sandbox is worth. -/
noncomputable def Yba.pinned : Pinned := { name := "ybulkpda", sum := "bb95c07586473e1683e9bfb6ea2b5b7fac1781e278ebc72d3ab6739b42b9a063", checked := Yba.checked }
namespace Rows
def none {H : Type} : Left H := { results := [], args := [] }

/-- 'regex.LawS0780BShape': WHATEVER THE INPUT: true; the input reads as it did. -/
def lawS0780BShapeSpec : ChangeSpec := { name := "lawS0780BShape", fn := fun _ => fun
  | [d] => { results := [.lit (.bool true)], args := [d] }
  | _ => none }
def lawS0780BShapeRow : OpenClaim := { program := "ybulkpda", sum := "bb95c07586473e1683e9bfb6ea2b5b7fac1781e278ebc72d3ab6739b42b9a063", func := "example.com/fixpoint/fixpoint/internal/regex.LawS0780BShape", spec := "lawS0780BShape", apart := false }
def LawS0780BShapeSaid : Prop := lawS0780BShapeRow.holds Yba.pinned (OpenSpec.ofChange lawS0780BShapeSpec)

/-- ITS FALSE NEIGHBOUR: 'it returns false'. Refute it at one input. -/
def lawS0780BShapeWrong : ChangeSpec := { name := "lawS0780BShape", fn := fun _ => fun
  | [d] => { results := [.lit (.bool false)], args := [d] }
  | _ => none }
def LawS0780BShapeWrongFalsely : Prop := lawS0780BShapeRow.holds Yba.pinned (OpenSpec.ofChange lawS0780BShapeWrong)

end Rows
end Go.Proofs.Ybulkpda
