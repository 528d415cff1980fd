/-
  No cell of these rows narrows 'for every input' (looked for: loops, veiled, ifaces, maps, wideKeys, modest, calm, conditions, laid).
  DERIVED. THE GIVEN ROWS OF THIS SEAT. 1 by the template 'for every input the law returns true; each argument reads behind the call as it read before'; 0 by the template 'total and deterministic' (their statements: Qxb6608948aTotals.lean).
  GIVEN WITH THE SEED: the statements are not yours to turn. If you find one false, say at which input.
  Laid BY PROGRAM, IN A SANDBOX (cutbox-rows.mjs): the forced cells as the released guide's own fill.sh prints them over the translation 080246147d295eae… (all of the seat's roots in one cut). By AI agents, Wed Nov 11 2026. No macro, syntax, notation, axiom, sorry.
-/
import Derived.Test.Qxb6608948aChecked
import GoSem.Claim
import GoSem.ClaimJoined
import GoSem.ClaimMapViews
import Derived.JoinedTies
import Derived.KernelRfl
namespace Go.Proofs.Qxb6608948a
/- THE CELL 'sum', in the pinned program and in every row, IS THE sha256 OF THE DUMP (.gsa) THAT Qxb6608948aProg.lean LOADS. Nothing in Lean hashes anything: it is a label: what it is worth is what the hold of that sum in a sandbox is worth. -/
noncomputable def Try.pinned : Pinned := { name := "qxb6608948a", sum := "080246147d295eae1b17b259f23199321b0d3573184aea7dde850919fa1ba406", checked := Try.checked }
namespace Rows
def none {H : Type} : Left H := { results := [], args := [] }

/-- 'zzlaws_internal_wire_b1.FnFetchStateAppendFieldsSortsAsSeqAndJoins': WHATEVER THE INPUT: true; the input reads as it did. -/
def fnFetchStateAppendFieldsSortsAsSeqAndJoinsSpec : ChangeSpec := { name := "fnFetchStateAppendFieldsSortsAsSeqAndJoins", fn := fun _ => fun
  | [d1, d2, d3] => { results := [.lit (.bool true)], args := [d1, d2, d3] }
  | _ => none }
def fnFetchStateAppendFieldsSortsAsSeqAndJoinsRow : OpenClaim := { program := "qxb6608948a", sum := "080246147d295eae1b17b259f23199321b0d3573184aea7dde850919fa1ba406", func := "example.com/redoubt/redoubt/zzlaws_internal_wire_b1.FnFetchStateAppendFieldsSortsAsSeqAndJoins", spec := "fnFetchStateAppendFieldsSortsAsSeqAndJoins", named := ["encoding/binary.BigEndian"], apart := false }
def FnFetchStateAppendFieldsSortsAsSeqAndJoinsSaid : Prop := fnFetchStateAppendFieldsSortsAsSeqAndJoinsRow.holds Try.pinned (OpenSpec.ofChange fnFetchStateAppendFieldsSortsAsSeqAndJoinsSpec)

/-- ITS FALSE NEIGHBOUR: 'it returns false'. Refute it at one input. -/
def fnFetchStateAppendFieldsSortsAsSeqAndJoinsWrong : ChangeSpec := { name := "fnFetchStateAppendFieldsSortsAsSeqAndJoins", fn := fun _ => fun
  | [d1, d2, d3] => { results := [.lit (.bool false)], args := [d1, d2, d3] }
  | _ => none }
def FnFetchStateAppendFieldsSortsAsSeqAndJoinsWrongFalsely : Prop := fnFetchStateAppendFieldsSortsAsSeqAndJoinsRow.holds Try.pinned (OpenSpec.ofChange fnFetchStateAppendFieldsSortsAsSeqAndJoinsWrong)

end Rows
end Go.Proofs.Qxb6608948a
