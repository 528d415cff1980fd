/-
  NARROWER THAN 'FOR EVERY INPUT', by the rows' own cells (each row's printed sentence says how): FnDecodeRequestsStopsAtTheListsEnd: ifaces, laid.
  DERIVED. THE GIVEN ROWS OF THIS SEAT. 1 by the template 'for every input the law returns true; each argument reads behind the call as it read before'; 0 by the template 'total and deterministic' (their statements: Qxb6608948aFmtTotals.lean).
  GIVEN WITH THE SEED: the statements are not yours to turn. If you find one false, say at which input.
  Laid BY PROGRAM, IN A SANDBOX (cutbox-rows.mjs): the forced cells as the released guide's own fill.sh prints them over the translation aed5dea894bc74f1… (all of the seat's roots in one cut). By AI agents, Wed Nov 11 2026. No macro, syntax, notation, axiom, sorry.
-/
import Derived.Test.Qxb6608948aFmtChecked
import GoSem.Claim
import GoSem.ClaimJoined
import GoSem.ClaimMapViews
import Derived.JoinedTies
import Derived.KernelRfl
namespace Go.Proofs.Qxb6608948aFmt
/- THE CELL 'sum', in the pinned program and in every row, IS THE sha256 OF THE DUMP (.gsa) THAT Qxb6608948aFmtProg.lean LOADS. Nothing in Lean hashes anything: it is a label: what it is worth is what the hold of that sum in a sandbox is worth. -/
noncomputable def Tryf.pinned : Pinned := { name := "qxb6608948afmt", sum := "aed5dea894bc74f1c17e1e0bc47a0b14bc3b9ed9b9e443076a4767a0de46cd1a", checked := Tryf.checked }
namespace Rows
def none {H : Type} : Left H := { results := [], args := [] }

/- WHAT THE LISTED PACKAGE-LEVEL VARIABLES READ AS WHEN THE CALL BEGINS. Each datum BY PROGRAM (the guide's laid-datum.mjs) off the statement by which the dump's own 'gosem.cut.vars' lays the variable. In a bare row this is a premise. The card (Qxb6608948aFmtCards.lean) ties it to the program's text. -/
def laid_example_com_redoubt_redoubt_internal_wire_errShort {H : Type} : DataW H := .iface "*errors.errorString" (.ptr (.agg [.lit (.string [101, 110, 100, 115, 32, 101, 97, 114, 108, 121])]))

/-- 'zzlaws_internal_wire_b1.FnDecodeRequestsStopsAtTheListsEnd': WHATEVER THE INPUT: true; the input reads as it did. -/
def fnDecodeRequestsStopsAtTheListsEndSpec : ChangeSpec := { name := "fnDecodeRequestsStopsAtTheListsEnd", vars := ["example.com/redoubt/redoubt/internal/wire.errShort"], fn := fun _ => fun
  | [d1, d2, g1] => { results := [.lit (.bool true)], args := [d1, d2], vars := [g1] }
  | _ => none }
def fnDecodeRequestsStopsAtTheListsEndRow : OpenClaim := { program := "qxb6608948afmt", sum := "aed5dea894bc74f1c17e1e0bc47a0b14bc3b9ed9b9e443076a4767a0de46cd1a", func := "example.com/redoubt/redoubt/zzlaws_internal_wire_b1.FnDecodeRequestsStopsAtTheListsEnd", spec := "fnDecodeRequestsStopsAtTheListsEnd", stops := ["fmt.errorf"], inPlace := ["fmt.errorf"], named := ["encoding/binary.BigEndian", "example.com/redoubt/redoubt/internal/wire.errShort"], ifaces := true, apart := false, laid := [("example.com/redoubt/redoubt/internal/wire.errShort", laid_example_com_redoubt_redoubt_internal_wire_errShort)] }
/-- NO THEOREM (fmt's text is open here; it may be false): for the released tool's asking of the row's closed facts alone. THE STATEMENT IS 'FnDecodeRequestsStopsAtTheListsEndToldSaid' (Qxb6608948aFmtCards.lean). -/
def FnDecodeRequestsStopsAtTheListsEndFormAsk : Prop := fnDecodeRequestsStopsAtTheListsEndRow.holds Tryf.pinned (OpenSpec.ofChange fnDecodeRequestsStopsAtTheListsEndSpec)

/-- ITS FALSE NEIGHBOUR: 'it returns false'. Refute it at one input. -/
def fnDecodeRequestsStopsAtTheListsEndWrong : ChangeSpec := { name := "fnDecodeRequestsStopsAtTheListsEnd", vars := ["example.com/redoubt/redoubt/internal/wire.errShort"], fn := fun _ => fun
  | [d1, d2, g1] => { results := [.lit (.bool false)], args := [d1, d2], vars := [g1] }
  | _ => none }
def FnDecodeRequestsStopsAtTheListsEndWrongFormAsk : Prop := fnDecodeRequestsStopsAtTheListsEndRow.holds Tryf.pinned (OpenSpec.ofChange fnDecodeRequestsStopsAtTheListsEndWrong)

end Rows
end Go.Proofs.Qxb6608948aFmt
