/-
  No cell of these rows narrows 'for every input' (looked for: loops, veiled, ifaces, maps, wideKeys, modest, calm, conditions, laid).
  DERIVED. THE GIVEN ROWS OF THIS SEAT. 4 by the template 'for every input the law returns true; each argument reads behind the call as it read before'; 0 by the template 'total and deterministic' (their statements: YbulkozgTotals.lean).
  GIVEN WITH THE SEED: the statements are not yours to turn. If you find one false, say at which input.
  Laid BY PROGRAM, IN A SANDBOX (cutbox-rows.mjs): the forced cells as the released guide's own fill.sh prints them over the translation 29b5a38f1bf15aa2… (all of the seat's roots in one cut). By AI agents, Wed Nov 11 2026. No macro, syntax, notation, axiom, sorry.
-/
import Derived.Test.YbulkozgChecked
import GoSem.Claim
import GoSem.ClaimJoined
import GoSem.ClaimMapViews
import Derived.JoinedTies
import Derived.KernelRfl
namespace Go.Proofs.Ybulkozg
/- THE CELL 'sum', in the pinned program and in every row, IS THE sha256 OF THE DUMP (.gsa) THAT YbulkozgProg.lean LOADS. Nothing in Lean hashes anything: it is a label: what it is worth is what the hold of that sum in a sandbox is worth. -/
noncomputable def Yba.pinned : Pinned := { name := "ybulkozg", sum := "29b5a38f1bf15aa230b8fd0639cbbfd66a77349a94b6dd39ae4702a70a5abcae", checked := Yba.checked }
namespace Rows
def none {H : Type} : Left H := { results := [], args := [] }

/-- 'creel.LawS0773BExact': WHATEVER THE INPUT: true; the input reads as it did. -/
def lawS0773BExactSpec : ChangeSpec := { name := "lawS0773BExact", fn := fun _ => fun
  | [d1, d2, d3] => { results := [.lit (.bool true)], args := [d1, d2, d3] }
  | _ => none }
def lawS0773BExactRow : OpenClaim := { program := "ybulkozg", sum := "29b5a38f1bf15aa230b8fd0639cbbfd66a77349a94b6dd39ae4702a70a5abcae", func := "example.com/creel/creel.LawS0773BExact", spec := "lawS0773BExact", apart := false }
def LawS0773BExactSaid : Prop := lawS0773BExactRow.holds Yba.pinned (OpenSpec.ofChange lawS0773BExactSpec)

/-- ITS FALSE NEIGHBOUR: 'it returns false'. Refute it at one input. -/
def lawS0773BExactWrong : ChangeSpec := { name := "lawS0773BExact", fn := fun _ => fun
  | [d1, d2, d3] => { results := [.lit (.bool false)], args := [d1, d2, d3] }
  | _ => none }
def LawS0773BExactWrongFalsely : Prop := lawS0773BExactRow.holds Yba.pinned (OpenSpec.ofChange lawS0773BExactWrong)

/-- 'creel.LawS0773BAdd': WHATEVER THE INPUT: true; the input reads as it did. -/
def lawS0773BAddSpec : ChangeSpec := { name := "lawS0773BAdd", fn := fun _ => fun
  | [d1, d2, d3, d4] => { results := [.lit (.bool true)], args := [d1, d2, d3, d4] }
  | _ => none }
def lawS0773BAddRow : OpenClaim := { program := "ybulkozg", sum := "29b5a38f1bf15aa230b8fd0639cbbfd66a77349a94b6dd39ae4702a70a5abcae", func := "example.com/creel/creel.LawS0773BAdd", spec := "lawS0773BAdd", apart := false }
def LawS0773BAddSaid : Prop := lawS0773BAddRow.holds Yba.pinned (OpenSpec.ofChange lawS0773BAddSpec)

/-- ITS FALSE NEIGHBOUR: 'it returns false'. Refute it at one input. -/
def lawS0773BAddWrong : ChangeSpec := { name := "lawS0773BAdd", fn := fun _ => fun
  | [d1, d2, d3, d4] => { results := [.lit (.bool false)], args := [d1, d2, d3, d4] }
  | _ => none }
def LawS0773BAddWrongFalsely : Prop := lawS0773BAddRow.holds Yba.pinned (OpenSpec.ofChange lawS0773BAddWrong)

/-- 'creel.LawS0773CClaimSets': WHATEVER THE INPUT: true; the input reads as it did. -/
def lawS0773CClaimSetsSpec : ChangeSpec := { name := "lawS0773CClaimSets", fn := fun _ => fun
  | [d1, d2, d3] => { results := [.lit (.bool true)], args := [d1, d2, d3] }
  | _ => none }
def lawS0773CClaimSetsRow : OpenClaim := { program := "ybulkozg", sum := "29b5a38f1bf15aa230b8fd0639cbbfd66a77349a94b6dd39ae4702a70a5abcae", func := "example.com/creel/creel.LawS0773CClaimSets", spec := "lawS0773CClaimSets", apart := false }
def LawS0773CClaimSetsSaid : Prop := lawS0773CClaimSetsRow.holds Yba.pinned (OpenSpec.ofChange lawS0773CClaimSetsSpec)

/-- ITS FALSE NEIGHBOUR: 'it returns false'. Refute it at one input. -/
def lawS0773CClaimSetsWrong : ChangeSpec := { name := "lawS0773CClaimSets", fn := fun _ => fun
  | [d1, d2, d3] => { results := [.lit (.bool false)], args := [d1, d2, d3] }
  | _ => none }
def LawS0773CClaimSetsWrongFalsely : Prop := lawS0773CClaimSetsRow.holds Yba.pinned (OpenSpec.ofChange lawS0773CClaimSetsWrong)

/-- 'creel.LawS0773CClaimFailed': WHATEVER THE INPUT: true; the input reads as it did. -/
def lawS0773CClaimFailedSpec : ChangeSpec := { name := "lawS0773CClaimFailed", fn := fun _ => fun
  | [d1, d2] => { results := [.lit (.bool true)], args := [d1, d2] }
  | _ => none }
def lawS0773CClaimFailedRow : OpenClaim := { program := "ybulkozg", sum := "29b5a38f1bf15aa230b8fd0639cbbfd66a77349a94b6dd39ae4702a70a5abcae", func := "example.com/creel/creel.LawS0773CClaimFailed", spec := "lawS0773CClaimFailed", apart := false }
def LawS0773CClaimFailedSaid : Prop := lawS0773CClaimFailedRow.holds Yba.pinned (OpenSpec.ofChange lawS0773CClaimFailedSpec)

/-- ITS FALSE NEIGHBOUR: 'it returns false'. Refute it at one input. -/
def lawS0773CClaimFailedWrong : ChangeSpec := { name := "lawS0773CClaimFailed", fn := fun _ => fun
  | [d1, d2] => { results := [.lit (.bool false)], args := [d1, d2] }
  | _ => none }
def LawS0773CClaimFailedWrongFalsely : Prop := lawS0773CClaimFailedRow.holds Yba.pinned (OpenSpec.ofChange lawS0773CClaimFailedWrong)

end Rows
end Go.Proofs.Ybulkozg
