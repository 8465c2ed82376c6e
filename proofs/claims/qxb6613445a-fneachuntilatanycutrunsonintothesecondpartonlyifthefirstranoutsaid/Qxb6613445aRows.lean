/-
  No cell of these rows narrows 'for every input' (looked for: loops, veiled, ifaces, maps, wideKeys, modest, calm, conditions, laid).
  DERIVED. THE GIVEN ROWS OF THIS SEAT. 1 by the template 'for every input the law returns true; each argument reads behind the call as it read before'; 0 by the template 'total and deterministic' (their statements: Qxb6613445aTotals.lean).
  GIVEN WITH THE SEED: the statements are not yours to turn. If you find one false, say at which input.
  Laid BY PROGRAM, IN A SANDBOX (cutbox-rows.mjs): the forced cells as the released guide's own fill.sh prints them over the translation 50221d26ca1c5ada… (all of the seat's roots in one cut). By AI agents, Wed Nov 11 2026. No macro, syntax, notation, axiom, sorry.
-/
import Derived.Test.Qxb6613445aChecked
import GoSem.Claim
import GoSem.ClaimJoined
import GoSem.ClaimMapViews
import Derived.JoinedTies
import Derived.KernelRfl
namespace Go.Proofs.Qxb6613445a
/- THE CELL 'sum', in the pinned program and in every row, IS THE sha256 OF THE DUMP (.gsa) THAT Qxb6613445aProg.lean LOADS. Nothing in Lean hashes anything: it is a label: what it is worth is what the hold of that sum in a sandbox is worth. -/
noncomputable def Try.pinned : Pinned := { name := "qxb6613445a", sum := "50221d26ca1c5ada488f6d87dce8f59ac189dccc893d3366eb0406e49177aa01", checked := Try.checked }
namespace Rows
def none {H : Type} : Left H := { results := [], args := [] }

/-- 'zzlaws_internal_policy_b1.FnEachUntilAtAnyCutRunsOnIntoTheSecondPartOnlyIfTheFirstRanOut': WHATEVER THE INPUT: true; the input reads as it did. -/
def fnEachUntilAtAnyCutRunsOnIntoTheSecondPartOnlyIfTheFirstRanOutSpec : ChangeSpec := { name := "fnEachUntilAtAnyCutRunsOnIntoTheSecondPartOnlyIfTheFirstRanOut", fn := fun _ => fun
  | [d1, d2] => { results := [.lit (.bool true)], args := [d1, d2] }
  | _ => none }
def fnEachUntilAtAnyCutRunsOnIntoTheSecondPartOnlyIfTheFirstRanOutRow : OpenClaim := { program := "qxb6613445a", sum := "50221d26ca1c5ada488f6d87dce8f59ac189dccc893d3366eb0406e49177aa01", func := "example.com/grantry/grantry/zzlaws_internal_policy_b1.FnEachUntilAtAnyCutRunsOnIntoTheSecondPartOnlyIfTheFirstRanOut", spec := "fnEachUntilAtAnyCutRunsOnIntoTheSecondPartOnlyIfTheFirstRanOut", unfollowed := true, recurses := true, plainKeys := false, apart := false }
def FnEachUntilAtAnyCutRunsOnIntoTheSecondPartOnlyIfTheFirstRanOutSaid : Prop := fnEachUntilAtAnyCutRunsOnIntoTheSecondPartOnlyIfTheFirstRanOutRow.holds Try.pinned (OpenSpec.ofChange fnEachUntilAtAnyCutRunsOnIntoTheSecondPartOnlyIfTheFirstRanOutSpec)

/-- ITS FALSE NEIGHBOUR: 'it returns false'. Refute it at one input. -/
def fnEachUntilAtAnyCutRunsOnIntoTheSecondPartOnlyIfTheFirstRanOutWrong : ChangeSpec := { name := "fnEachUntilAtAnyCutRunsOnIntoTheSecondPartOnlyIfTheFirstRanOut", fn := fun _ => fun
  | [d1, d2] => { results := [.lit (.bool false)], args := [d1, d2] }
  | _ => none }
def FnEachUntilAtAnyCutRunsOnIntoTheSecondPartOnlyIfTheFirstRanOutWrongFalsely : Prop := fnEachUntilAtAnyCutRunsOnIntoTheSecondPartOnlyIfTheFirstRanOutRow.holds Try.pinned (OpenSpec.ofChange fnEachUntilAtAnyCutRunsOnIntoTheSecondPartOnlyIfTheFirstRanOutWrong)

end Rows
end Go.Proofs.Qxb6613445a
