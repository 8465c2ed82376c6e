/-
  DERIVED. GIVEN WITH THE SEED: THE CARDS: each row of Qxb6612893aFmtRows.lean that lists a variable, with what it lists TIED to the program's text (the seventh form; the later family's looks); each row that meets fmt, with fmt's text TOLD by the authors' own Lean function (tested against real Go, not proved from fmt's source: count such statements apart). THE CARD IS WHAT COUNTS. Prove the row's statement (the work); the ties are given (Qxb6612893aFmtTie.lean); close each card by the builder's one call (the guide's Derived/Test/ToyasCard.lean, 'card_holds'). Laid BY PROGRAM, IN A SANDBOX (cutbox-door.mjs). By AI agents, Wed Nov 11 2026. No macro, syntax, notation, axiom, sorry.
-/
import Derived.Test.Qxb6612893aFmtRows
import GoSem.ClaimSeven
namespace Go.Proofs.Qxb6612893aFmt
namespace Rows

/-- THE TOLD AND TIED CARD OF 'zzlaws_pkg_store_b1.FnPartialNameRoundTripsThroughRecordNumber'. -/
def fnPartialNameRoundTripsThroughRecordNumberCard : Claim7 := { stood := { row := fnPartialNameRoundTripsThroughRecordNumberRow, standIns := [], harness := (true, "6b8ee8ba5ce7772d39e31589be00e47904e0cf97b68a1cebfe19dae7045a22ad"), looks := true }, told := true, laidByText := true, laidKinds := [.data, .data, .data, .sentinel, .sentinel], laidTests := true, laidLooks := .later, goes := false }
def FnPartialNameRoundTripsThroughRecordNumberToldSaid : Prop := Claim7.holds Tryf.pinned (.plain (OpenSpec.ofChange fnPartialNameRoundTripsThroughRecordNumberSpec)) fnPartialNameRoundTripsThroughRecordNumberCard
/-- ITS FALSE NEIGHBOUR. Refute it at one input. -/
def FnPartialNameRoundTripsThroughRecordNumberToldWrongFalsely : Prop := Claim7.holds Tryf.pinned (.plain (OpenSpec.ofChange fnPartialNameRoundTripsThroughRecordNumberWrong)) fnPartialNameRoundTripsThroughRecordNumberCard

/-- THE TOLD AND TIED CARD OF 'zzlaws_pkg_store_b1.FnPartialNamesSortAsTheirNumbers'. -/
def fnPartialNamesSortAsTheirNumbersCard : Claim7 := { stood := { row := fnPartialNamesSortAsTheirNumbersRow, standIns := [], harness := (true, "6b8ee8ba5ce7772d39e31589be00e47904e0cf97b68a1cebfe19dae7045a22ad"), looks := true }, told := true, laidByText := true, laidKinds := [.data, .data, .data, .sentinel, .sentinel], laidTests := true, laidLooks := .later, goes := false }
def FnPartialNamesSortAsTheirNumbersToldSaid : Prop := Claim7.holds Tryf.pinned (.plain (OpenSpec.ofChange fnPartialNamesSortAsTheirNumbersSpec)) fnPartialNamesSortAsTheirNumbersCard
/-- ITS FALSE NEIGHBOUR. Refute it at one input. -/
def FnPartialNamesSortAsTheirNumbersToldWrongFalsely : Prop := Claim7.holds Tryf.pinned (.plain (OpenSpec.ofChange fnPartialNamesSortAsTheirNumbersWrong)) fnPartialNamesSortAsTheirNumbersCard
end Rows
end Go.Proofs.Qxb6612893aFmt
