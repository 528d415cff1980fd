/-
  DERIVED. GIVEN WITH THE SEED: THE CARDS: each row of Qxb6608948aFmtRows.lean that lists a variable, with what it lists TIED to the program's text (the seventh form; the later family's looks); each row that meets fmt, with fmt's text TOLD by the authors' own Lean function (tested against real Go, not proved from fmt's source: count such statements apart). THE CARD IS WHAT COUNTS. Prove the row's statement (the work); the ties are given (Qxb6608948aFmtTie.lean); close each card by the builder's one call (the guide's Derived/Test/ToyasCard.lean, 'card_holds'). Laid BY PROGRAM, IN A SANDBOX (cutbox-door.mjs). By AI agents, Wed Nov 11 2026. No macro, syntax, notation, axiom, sorry.
-/
import Derived.Test.Qxb6608948aFmtRows
import GoSem.ClaimSeven
namespace Go.Proofs.Qxb6608948aFmt
namespace Rows

/-- THE TOLD AND TIED CARD OF 'zzlaws_internal_wire_b1.FnDecodeRequestsStopsAtTheListsEnd'. -/
def fnDecodeRequestsStopsAtTheListsEndCard : Claim7 := { stood := { row := fnDecodeRequestsStopsAtTheListsEndRow, standIns := [], harness := (true, "06833d0b685ddb3d368ab0bfe0ec2cd4baf667d88c3b2675f7db63bea308dac2"), looks := false }, told := true, laidByText := true, laidKinds := [.sentinel], laidTests := true, laidLooks := .later, goes := false }
def FnDecodeRequestsStopsAtTheListsEndToldSaid : Prop := Claim7.holds Tryf.pinned (.plain (OpenSpec.ofChange fnDecodeRequestsStopsAtTheListsEndSpec)) fnDecodeRequestsStopsAtTheListsEndCard
/-- ITS FALSE NEIGHBOUR. Refute it at one input. -/
def FnDecodeRequestsStopsAtTheListsEndToldWrongFalsely : Prop := Claim7.holds Tryf.pinned (.plain (OpenSpec.ofChange fnDecodeRequestsStopsAtTheListsEndWrong)) fnDecodeRequestsStopsAtTheListsEndCard
end Rows
end Go.Proofs.Qxb6608948aFmt
