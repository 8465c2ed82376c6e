/-
  No cell of these rows narrows 'for every input' (looked for: loops, veiled, ifaces, maps, wideKeys, modest, calm, conditions, laid).
  DERIVED. THE GIVEN ROWS OF THIS SEAT. 2 by the template 'for every input the law returns true; each argument reads behind the call as it read before'; 0 by the template 'total and deterministic' (their statements: Qxb6613111aTotals.lean).
  GIVEN WITH THE SEED: the statements are not yours to turn. If you find one false, say at which input.
  Laid BY PROGRAM, IN A SANDBOX (cutbox-rows.mjs): the forced cells as the released guide's own fill.sh prints them over the translation ef8119a29bcd94e3… (all of the seat's roots in one cut). By AI agents, Wed Nov 11 2026. No macro, syntax, notation, axiom, sorry.
-/
import Derived.Test.Qxb6613111aChecked
import GoSem.Claim
import GoSem.ClaimJoined
import GoSem.ClaimMapViews
import Derived.JoinedTies
import Derived.KernelRfl
namespace Go.Proofs.Qxb6613111a
/- THE CELL 'sum', in the pinned program and in every row, IS THE sha256 OF THE DUMP (.gsa) THAT Qxb6613111aProg.lean LOADS. Nothing in Lean hashes anything: it is a label: what it is worth is what the hold of that sum in a sandbox is worth. -/
noncomputable def Try.pinned : Pinned := { name := "qxb6613111a", sum := "ef8119a29bcd94e35955ac17148f85abf55332fa4c3b745ea20e9d4c9f44ba15", checked := Try.checked }
namespace Rows
def none {H : Type} : Left H := { results := [], args := [] }

/-- 'zzlaws_root_b1.FnLadderBestIsTheHighestLevelHoweverCut': WHATEVER THE INPUT: true; the input reads as it did. -/
def fnLadderBestIsTheHighestLevelHoweverCutSpec : ChangeSpec := { name := "fnLadderBestIsTheHighestLevelHoweverCut", fn := fun _ => fun
  | [d] => { results := [.lit (.bool true)], args := [d] }
  | _ => none }
def fnLadderBestIsTheHighestLevelHoweverCutRow : OpenClaim := { program := "qxb6613111a", sum := "ef8119a29bcd94e35955ac17148f85abf55332fa4c3b745ea20e9d4c9f44ba15", func := "example.com/ballast/ballast/zzlaws_root_b1.FnLadderBestIsTheHighestLevelHoweverCut", spec := "fnLadderBestIsTheHighestLevelHoweverCut", plainKeys := false, apart := false }
def FnLadderBestIsTheHighestLevelHoweverCutSaid : Prop := fnLadderBestIsTheHighestLevelHoweverCutRow.holds Try.pinned (OpenSpec.ofChange fnLadderBestIsTheHighestLevelHoweverCutSpec)

/-- ITS FALSE NEIGHBOUR: 'it returns false'. Refute it at one input. -/
def fnLadderBestIsTheHighestLevelHoweverCutWrong : ChangeSpec := { name := "fnLadderBestIsTheHighestLevelHoweverCut", fn := fun _ => fun
  | [d] => { results := [.lit (.bool false)], args := [d] }
  | _ => none }
def FnLadderBestIsTheHighestLevelHoweverCutWrongFalsely : Prop := fnLadderBestIsTheHighestLevelHoweverCutRow.holds Try.pinned (OpenSpec.ofChange fnLadderBestIsTheHighestLevelHoweverCutWrong)

/-- 'zzlaws_root_b1.FnLadderBestAfterALevelPutInAtAnyPlace': WHATEVER THE INPUT: true; the input reads as it did. -/
def fnLadderBestAfterALevelPutInAtAnyPlaceSpec : ChangeSpec := { name := "fnLadderBestAfterALevelPutInAtAnyPlace", fn := fun _ => fun
  | [d1, d2, d3] => { results := [.lit (.bool true)], args := [d1, d2, d3] }
  | _ => none }
def fnLadderBestAfterALevelPutInAtAnyPlaceRow : OpenClaim := { program := "qxb6613111a", sum := "ef8119a29bcd94e35955ac17148f85abf55332fa4c3b745ea20e9d4c9f44ba15", func := "example.com/ballast/ballast/zzlaws_root_b1.FnLadderBestAfterALevelPutInAtAnyPlace", spec := "fnLadderBestAfterALevelPutInAtAnyPlace", plainKeys := false, apart := false }
def FnLadderBestAfterALevelPutInAtAnyPlaceSaid : Prop := fnLadderBestAfterALevelPutInAtAnyPlaceRow.holds Try.pinned (OpenSpec.ofChange fnLadderBestAfterALevelPutInAtAnyPlaceSpec)

/-- ITS FALSE NEIGHBOUR: 'it returns false'. Refute it at one input. -/
def fnLadderBestAfterALevelPutInAtAnyPlaceWrong : ChangeSpec := { name := "fnLadderBestAfterALevelPutInAtAnyPlace", fn := fun _ => fun
  | [d1, d2, d3] => { results := [.lit (.bool false)], args := [d1, d2, d3] }
  | _ => none }
def FnLadderBestAfterALevelPutInAtAnyPlaceWrongFalsely : Prop := fnLadderBestAfterALevelPutInAtAnyPlaceRow.holds Try.pinned (OpenSpec.ofChange fnLadderBestAfterALevelPutInAtAnyPlaceWrong)

end Rows
end Go.Proofs.Qxb6613111a
