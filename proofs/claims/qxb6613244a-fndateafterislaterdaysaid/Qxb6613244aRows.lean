/-
  No cell of these rows narrows 'for every input' (looked for: loops, veiled, ifaces, maps, wideKeys, modest, calm, conditions, laid).
  DERIVED. THE GIVEN ROWS OF THIS SEAT. 1 by the template 'for every input the law returns true; each argument reads behind the call as it read before'; 0 by the template 'total and deterministic' (their statements: Qxb6613244aTotals.lean).
  GIVEN WITH THE SEED: the statements are not yours to turn. If you find one false, say at which input.
  Laid BY PROGRAM, IN A SANDBOX (cutbox-rows.mjs): the forced cells as the released guide's own fill.sh prints them over the translation 3505df3f53d38968… (all of the seat's roots in one cut). By AI agents, Wed Nov 11 2026. No macro, syntax, notation, axiom, sorry.
-/
import Derived.Test.Qxb6613244aChecked
import GoSem.Claim
import GoSem.ClaimJoined
import GoSem.ClaimMapViews
import Derived.JoinedTies
import Derived.KernelRfl
namespace Go.Proofs.Qxb6613244a
/- THE CELL 'sum', in the pinned program and in every row, IS THE sha256 OF THE DUMP (.gsa) THAT Qxb6613244aProg.lean LOADS. Nothing in Lean hashes anything: it is a label: what it is worth is what the hold of that sum in a sandbox is worth. -/
noncomputable def Try.pinned : Pinned := { name := "qxb6613244a", sum := "3505df3f53d38968b5da409667dc1dbaa6d629570d7c7328b0af47b37d0d13d5", checked := Try.checked }
namespace Rows
def none {H : Type} : Left H := { results := [], args := [] }

/-- 'zzlaws_root_b1.FnDateAfterIsLaterDay': WHATEVER THE INPUT: true; the input reads as it did. -/
def fnDateAfterIsLaterDaySpec : ChangeSpec := { name := "fnDateAfterIsLaterDay", fn := fun _ => fun
  | [d1, d2, d3, d4, d5, d6] => { results := [.lit (.bool true)], args := [d1, d2, d3, d4, d5, d6] }
  | _ => none }
def fnDateAfterIsLaterDayRow : OpenClaim := { program := "qxb6613244a", sum := "3505df3f53d38968b5da409667dc1dbaa6d629570d7c7328b0af47b37d0d13d5", func := "example.com/armslength/armslength/zzlaws_root_b1.FnDateAfterIsLaterDay", spec := "fnDateAfterIsLaterDay", apart := false }
def FnDateAfterIsLaterDaySaid : Prop := fnDateAfterIsLaterDayRow.holds Try.pinned (OpenSpec.ofChange fnDateAfterIsLaterDaySpec)

/-- ITS FALSE NEIGHBOUR: 'it returns false'. Refute it at one input. -/
def fnDateAfterIsLaterDayWrong : ChangeSpec := { name := "fnDateAfterIsLaterDay", fn := fun _ => fun
  | [d1, d2, d3, d4, d5, d6] => { results := [.lit (.bool false)], args := [d1, d2, d3, d4, d5, d6] }
  | _ => none }
def FnDateAfterIsLaterDayWrongFalsely : Prop := fnDateAfterIsLaterDayRow.holds Try.pinned (OpenSpec.ofChange fnDateAfterIsLaterDayWrong)

end Rows
end Go.Proofs.Qxb6613244a
