/-
  NARROWER THAN 'FOR EVERY INPUT', by the rows' own cells (each row's printed sentence says how): LawS0773AParam: ifaces, laid.
  DERIVED. THE GIVEN ROWS OF THIS SEAT. 1 by the template 'for every input the law returns true; each argument reads behind the call as it read before'; 0 by the template 'total and deterministic' (their statements: YbulkozgFmtTotals.lean).
  GIVEN WITH THE SEED: the statements are not yours to turn. If you find one false, say at which input.
  Laid BY PROGRAM, IN A SANDBOX (cutbox-rows.mjs): the forced cells as the released guide's own fill.sh prints them over the translation e39db8c0c1ab87ee… (all of the seat's roots in one cut). By AI agents, Wed Nov 11 2026. No macro, syntax, notation, axiom, sorry.
-/
import Derived.Test.YbulkozgFmtChecked
import GoSem.Claim
import GoSem.ClaimJoined
import GoSem.ClaimMapViews
import Derived.JoinedTies
import Derived.KernelRfl
namespace Go.Proofs.YbulkozgFmt
/- THE CELL 'sum', in the pinned program and in every row, IS THE sha256 OF THE DUMP (.gsa) THAT YbulkozgFmtProg.lean LOADS. Nothing in Lean hashes anything: it is a label: what it is worth is what the hold of that sum in a sandbox is worth. -/
noncomputable def Ybaf.pinned : Pinned := { name := "ybulkozgfmt", sum := "e39db8c0c1ab87eeb740061c7c741eb6a27116fbf2b521fc348778c7501f2508", checked := Ybaf.checked }
namespace Rows
def none {H : Type} : Left H := { results := [], args := [] }

/- WHAT THE LISTED PACKAGE-LEVEL VARIABLES READ AS WHEN THE CALL BEGINS. Each datum BY PROGRAM (the guide's laid-datum.mjs) off the statement by which the dump's own 'gosem.cut.vars' lays the variable. In a bare row this is a premise. The card (YbulkozgFmtCards.lean) ties it to the program's text. -/
def laid_errors_errorType {H : Type} : DataW H := .iface "internal/reflectlite.rtype" (.agg [.ptr (.lit (.string [101, 114, 114, 111, 114]))])
def laid_example_com_creel_creel_ErrNotFound {H : Type} : DataW H := .iface "*errors.errorString" (.ptr (.agg [.lit (.string [99, 114, 101, 101, 108, 58, 32, 110, 111, 116, 32, 102, 111, 117, 110, 100])]))
def laid_example_com_creel_creel_ErrClosed {H : Type} : DataW H := .iface "*errors.errorString" (.ptr (.agg [.lit (.string [99, 114, 101, 101, 108, 58, 32, 99, 108, 111, 115, 101, 100])]))

/-- 'creel.LawS0773AParam': WHATEVER THE INPUT: true; the input reads as it did. -/
def lawS0773AParamSpec : ChangeSpec := { name := "lawS0773AParam", vars := ["example.com/creel/creel.ErrNotFound", "example.com/creel/creel.ErrClosed"], fn := fun _ => fun
  | [d1, d2, d3, d4, d5, g1, g2] => { results := [.lit (.bool true)], args := [d1, d2, d3, d4, d5], vars := [g1, g2] }
  | _ => none }
def lawS0773AParamRow : OpenClaim := { program := "ybulkozgfmt", sum := "e39db8c0c1ab87eeb740061c7c741eb6a27116fbf2b521fc348778c7501f2508", func := "example.com/creel/creel.LawS0773AParam", spec := "lawS0773AParam", stops := ["fmt.errorf, its operands' methods called", "fmt.Sprintf"], inPlace := ["sync/atomic.StoreUint32", "(*sync.RWMutex).RLock", "internal/race.Read", "internal/race.Disable", "sync/atomic.AddInt32", "sync.runtime_SemacquireRWMutexR", "internal/race.Enable", "internal/race.Acquire", "(*sync.RWMutex).RUnlock", "internal/race.ReleaseMerge", "(*sync.RWMutex).rUnlockSlow", "sync.fatal", "sync.runtime_Semrelease", "sync/atomic.LoadUint32", "fmt.errorf", "internal/reflectlite.ValueOf", "(internal/reflectlite.Value).Type", "(internal/reflectlite.Value).IsNil", "internal/reflectlite.TypeOf", "(internal/reflectlite.Value).Elem", "(internal/reflectlite.Value).Set"], unfollowed := true, recurses := true, named := ["example.com/creel/creel.ErrNotFound", "example.com/creel/creel.ErrClosed", "errors.errorType"], ifaces := true, apart := false, laid := [("errors.errorType", laid_errors_errorType), ("example.com/creel/creel.ErrNotFound", laid_example_com_creel_creel_ErrNotFound), ("example.com/creel/creel.ErrClosed", laid_example_com_creel_creel_ErrClosed)] }
/-- NO THEOREM (fmt's text is open here; it may be false): for the released tool's asking of the row's closed facts alone. THE STATEMENT IS 'LawS0773AParamToldSaid' (YbulkozgFmtCards.lean). -/
def LawS0773AParamFormAsk : Prop := lawS0773AParamRow.holds Ybaf.pinned (OpenSpec.ofChange lawS0773AParamSpec)

/-- ITS FALSE NEIGHBOUR: 'it returns false'. Refute it at one input. -/
def lawS0773AParamWrong : ChangeSpec := { name := "lawS0773AParam", vars := ["example.com/creel/creel.ErrNotFound", "example.com/creel/creel.ErrClosed"], fn := fun _ => fun
  | [d1, d2, d3, d4, d5, g1, g2] => { results := [.lit (.bool false)], args := [d1, d2, d3, d4, d5], vars := [g1, g2] }
  | _ => none }
def LawS0773AParamWrongFormAsk : Prop := lawS0773AParamRow.holds Ybaf.pinned (OpenSpec.ofChange lawS0773AParamWrong)

end Rows
end Go.Proofs.YbulkozgFmt
