/-
  No cell of these rows narrows 'for every input' (looked for: loops, veiled, ifaces, maps, wideKeys, modest, calm, conditions, laid).
  DERIVED. THE GIVEN ROWS OF THIS SEAT. 2 by the template 'for every input the law returns true; each argument reads behind the call as it read before'; 0 by the template 'total and deterministic' (their statements: YbulkpcmTotals.lean).
  GIVEN WITH THE SEED: the statements are not yours to turn. If you find one false, say at which input.
  Laid BY PROGRAM, IN A SANDBOX (cutbox-rows.mjs): the forced cells as the released guide's own fill.sh prints them over the translation 441bc3ece7ba0a60… (all of the seat's roots in one cut). By AI agents, Wed Nov 11 2026. No macro, syntax, notation, axiom, sorry.
-/
import Derived.Test.YbulkpcmChecked
import GoSem.Claim
import GoSem.ClaimJoined
import GoSem.ClaimMapViews
import Derived.JoinedTies
import Derived.KernelRfl
namespace Go.Proofs.Ybulkpcm
/- THE CELL 'sum', in the pinned program and in every row, IS THE sha256 OF THE DUMP (.gsa) THAT YbulkpcmProg.lean LOADS. Nothing in Lean hashes anything: it is a label: what it is worth is what the hold of that sum in a sandbox is worth. -/
noncomputable def Yba.pinned : Pinned := { name := "ybulkpcm", sum := "441bc3ece7ba0a60b2c8d25a2d4e70ff0c18467901108fde6a5b294ddaa64a63", checked := Yba.checked }
namespace Rows
def none {H : Type} : Left H := { results := [], args := [] }

/-- 'model.LawS0779BNoDst': WHATEVER THE INPUT: true; the input reads as it did. -/
def lawS0779BNoDstSpec : ChangeSpec := { name := "lawS0779BNoDst", fn := fun _ => fun
  | [d1, d2, d3, d4, d5] => { results := [.lit (.bool true)], args := [d1, d2, d3, d4, d5] }
  | _ => none }
def lawS0779BNoDstRow : OpenClaim := { program := "ybulkpcm", sum := "441bc3ece7ba0a60b2c8d25a2d4e70ff0c18467901108fde6a5b294ddaa64a63", func := "example.com/parlance/parlance/pkg/model.LawS0779BNoDst", spec := "lawS0779BNoDst", unfollowed := true, recurses := true, plainKeys := false, apart := false }
def LawS0779BNoDstSaid : Prop := lawS0779BNoDstRow.holds Yba.pinned (OpenSpec.ofChange lawS0779BNoDstSpec)

/-- ITS FALSE NEIGHBOUR: 'it returns false'. Refute it at one input. -/
def lawS0779BNoDstWrong : ChangeSpec := { name := "lawS0779BNoDst", fn := fun _ => fun
  | [d1, d2, d3, d4, d5] => { results := [.lit (.bool false)], args := [d1, d2, d3, d4, d5] }
  | _ => none }
def LawS0779BNoDstWrongFalsely : Prop := lawS0779BNoDstRow.holds Yba.pinned (OpenSpec.ofChange lawS0779BNoDstWrong)

/-- 'model.LawS0779BFlush': WHATEVER THE INPUT: true; the input reads as it did. -/
def lawS0779BFlushSpec : ChangeSpec := { name := "lawS0779BFlush", fn := fun _ => fun
  | [d1, d2, d3, d4, d5, d6, d7] => { results := [.lit (.bool true)], args := [d1, d2, d3, d4, d5, d6, d7] }
  | _ => none }
def lawS0779BFlushRow : OpenClaim := { program := "ybulkpcm", sum := "441bc3ece7ba0a60b2c8d25a2d4e70ff0c18467901108fde6a5b294ddaa64a63", func := "example.com/parlance/parlance/pkg/model.LawS0779BFlush", spec := "lawS0779BFlush", unfollowed := true, recurses := true, plainKeys := false, apart := false }
def LawS0779BFlushSaid : Prop := lawS0779BFlushRow.holds Yba.pinned (OpenSpec.ofChange lawS0779BFlushSpec)

/-- ITS FALSE NEIGHBOUR: 'it returns false'. Refute it at one input. -/
def lawS0779BFlushWrong : ChangeSpec := { name := "lawS0779BFlush", fn := fun _ => fun
  | [d1, d2, d3, d4, d5, d6, d7] => { results := [.lit (.bool false)], args := [d1, d2, d3, d4, d5, d6, d7] }
  | _ => none }
def LawS0779BFlushWrongFalsely : Prop := lawS0779BFlushRow.holds Yba.pinned (OpenSpec.ofChange lawS0779BFlushWrong)

end Rows
end Go.Proofs.Ybulkpcm
