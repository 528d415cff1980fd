/-
  No cell of these rows narrows 'for every input' (looked for: loops, veiled, ifaces, maps, wideKeys, modest, calm, conditions, laid).
  DERIVED. THE GIVEN ROWS OF THIS SEAT. 4 by the template 'for every input the law returns true; each argument reads behind the call as it read before'; 0 by the template 'total and deterministic' (their statements: Qxb6608988aTotals.lean).
  GIVEN WITH THE SEED: the statements are not yours to turn. If you find one false, say at which input.
  Laid BY PROGRAM, IN A SANDBOX (cutbox-rows.mjs): the forced cells as the released guide's own fill.sh prints them over the translation 7ffb83d680139e98… (all of the seat's roots in one cut). By AI agents, Wed Nov 11 2026. No macro, syntax, notation, axiom, sorry.
-/
import Derived.Test.Qxb6608988aChecked
import GoSem.Claim
import GoSem.ClaimJoined
import GoSem.ClaimMapViews
import Derived.JoinedTies
import Derived.KernelRfl
namespace Go.Proofs.Qxb6608988a
/- THE CELL 'sum', in the pinned program and in every row, IS THE sha256 OF THE DUMP (.gsa) THAT Qxb6608988aProg.lean LOADS. Nothing in Lean hashes anything: it is a label: what it is worth is what the hold of that sum in a sandbox is worth. -/
noncomputable def Try.pinned : Pinned := { name := "qxb6608988a", sum := "7ffb83d680139e9881af60e238fb490f8ceeed18b6448abe13babb84291348e6", checked := Try.checked }
namespace Rows
def none {H : Type} : Left H := { results := [], args := [] }

/-- 'zzlaws_syntax_b1.FnBinaryPosOfJoinIsLeftPartsPos': WHATEVER THE INPUT: true; the input reads as it did. -/
def fnBinaryPosOfJoinIsLeftPartsPosSpec : ChangeSpec := { name := "fnBinaryPosOfJoinIsLeftPartsPos", fn := fun _ => fun
  | [d1, d2, d3, d4, d5, d6, d7, d8, d9, d10, d11] => { results := [.lit (.bool true)], args := [d1, d2, d3, d4, d5, d6, d7, d8, d9, d10, d11] }
  | _ => none }
def fnBinaryPosOfJoinIsLeftPartsPosRow : OpenClaim := { program := "qxb6608988a", sum := "7ffb83d680139e9881af60e238fb490f8ceeed18b6448abe13babb84291348e6", func := "example.com/cormorant/cormorant/zzlaws_syntax_b1.FnBinaryPosOfJoinIsLeftPartsPos", spec := "fnBinaryPosOfJoinIsLeftPartsPos", unfollowed := true, recurses := true, apart := false }
def FnBinaryPosOfJoinIsLeftPartsPosSaid : Prop := fnBinaryPosOfJoinIsLeftPartsPosRow.holds Try.pinned (OpenSpec.ofChange fnBinaryPosOfJoinIsLeftPartsPosSpec)

/-- ITS FALSE NEIGHBOUR: 'it returns false'. Refute it at one input. -/
def fnBinaryPosOfJoinIsLeftPartsPosWrong : ChangeSpec := { name := "fnBinaryPosOfJoinIsLeftPartsPos", fn := fun _ => fun
  | [d1, d2, d3, d4, d5, d6, d7, d8, d9, d10, d11] => { results := [.lit (.bool false)], args := [d1, d2, d3, d4, d5, d6, d7, d8, d9, d10, d11] }
  | _ => none }
def FnBinaryPosOfJoinIsLeftPartsPosWrongFalsely : Prop := fnBinaryPosOfJoinIsLeftPartsPosRow.holds Try.pinned (OpenSpec.ofChange fnBinaryPosOfJoinIsLeftPartsPosWrong)

/-- 'zzlaws_syntax_b1.FnBinaryPosReachesThroughLookup': WHATEVER THE INPUT: true; the input reads as it did. -/
def fnBinaryPosReachesThroughLookupSpec : ChangeSpec := { name := "fnBinaryPosReachesThroughLookup", fn := fun _ => fun
  | [d1, d2, d3, d4, d5, d6, d7, d8, d9, d10, d11] => { results := [.lit (.bool true)], args := [d1, d2, d3, d4, d5, d6, d7, d8, d9, d10, d11] }
  | _ => none }
def fnBinaryPosReachesThroughLookupRow : OpenClaim := { program := "qxb6608988a", sum := "7ffb83d680139e9881af60e238fb490f8ceeed18b6448abe13babb84291348e6", func := "example.com/cormorant/cormorant/zzlaws_syntax_b1.FnBinaryPosReachesThroughLookup", spec := "fnBinaryPosReachesThroughLookup", unfollowed := true, recurses := true, apart := false }
def FnBinaryPosReachesThroughLookupSaid : Prop := fnBinaryPosReachesThroughLookupRow.holds Try.pinned (OpenSpec.ofChange fnBinaryPosReachesThroughLookupSpec)

/-- ITS FALSE NEIGHBOUR: 'it returns false'. Refute it at one input. -/
def fnBinaryPosReachesThroughLookupWrong : ChangeSpec := { name := "fnBinaryPosReachesThroughLookup", fn := fun _ => fun
  | [d1, d2, d3, d4, d5, d6, d7, d8, d9, d10, d11] => { results := [.lit (.bool false)], args := [d1, d2, d3, d4, d5, d6, d7, d8, d9, d10, d11] }
  | _ => none }
def FnBinaryPosReachesThroughLookupWrongFalsely : Prop := fnBinaryPosReachesThroughLookupRow.holds Try.pinned (OpenSpec.ofChange fnBinaryPosReachesThroughLookupWrong)

/-- 'zzlaws_syntax_b1.FnErrorsAddScriptIsStableSortByPlace': WHATEVER THE INPUT: true; the input reads as it did. -/
def fnErrorsAddScriptIsStableSortByPlaceSpec : ChangeSpec := { name := "fnErrorsAddScriptIsStableSortByPlace", fn := fun _ => fun
  | [d] => { results := [.lit (.bool true)], args := [d] }
  | _ => none }
def fnErrorsAddScriptIsStableSortByPlaceRow : OpenClaim := { program := "qxb6608988a", sum := "7ffb83d680139e9881af60e238fb490f8ceeed18b6448abe13babb84291348e6", func := "example.com/cormorant/cormorant/zzlaws_syntax_b1.FnErrorsAddScriptIsStableSortByPlace", spec := "fnErrorsAddScriptIsStableSortByPlace", inPlace := ["slices.overlaps[*example.com/cormorant/cormorant/syntax.Error]"], unfollowed := true, recurses := true, apart := false }
def FnErrorsAddScriptIsStableSortByPlaceSaid : Prop := fnErrorsAddScriptIsStableSortByPlaceRow.holds Try.pinned (OpenSpec.ofChange fnErrorsAddScriptIsStableSortByPlaceSpec)

/-- ITS FALSE NEIGHBOUR: 'it returns false'. Refute it at one input. -/
def fnErrorsAddScriptIsStableSortByPlaceWrong : ChangeSpec := { name := "fnErrorsAddScriptIsStableSortByPlace", fn := fun _ => fun
  | [d] => { results := [.lit (.bool false)], args := [d] }
  | _ => none }
def FnErrorsAddScriptIsStableSortByPlaceWrongFalsely : Prop := fnErrorsAddScriptIsStableSortByPlaceRow.holds Try.pinned (OpenSpec.ofChange fnErrorsAddScriptIsStableSortByPlaceWrong)

/-- 'zzlaws_syntax_b1.FnErrorsAddReversedScriptReversesOnlyTies': WHATEVER THE INPUT: true; the input reads as it did. -/
def fnErrorsAddReversedScriptReversesOnlyTiesSpec : ChangeSpec := { name := "fnErrorsAddReversedScriptReversesOnlyTies", fn := fun _ => fun
  | [d] => { results := [.lit (.bool true)], args := [d] }
  | _ => none }
def fnErrorsAddReversedScriptReversesOnlyTiesRow : OpenClaim := { program := "qxb6608988a", sum := "7ffb83d680139e9881af60e238fb490f8ceeed18b6448abe13babb84291348e6", func := "example.com/cormorant/cormorant/zzlaws_syntax_b1.FnErrorsAddReversedScriptReversesOnlyTies", spec := "fnErrorsAddReversedScriptReversesOnlyTies", inPlace := ["slices.overlaps[*example.com/cormorant/cormorant/syntax.Error]"], unfollowed := true, recurses := true, apart := false }
def FnErrorsAddReversedScriptReversesOnlyTiesSaid : Prop := fnErrorsAddReversedScriptReversesOnlyTiesRow.holds Try.pinned (OpenSpec.ofChange fnErrorsAddReversedScriptReversesOnlyTiesSpec)

/-- ITS FALSE NEIGHBOUR: 'it returns false'. Refute it at one input. -/
def fnErrorsAddReversedScriptReversesOnlyTiesWrong : ChangeSpec := { name := "fnErrorsAddReversedScriptReversesOnlyTies", fn := fun _ => fun
  | [d] => { results := [.lit (.bool false)], args := [d] }
  | _ => none }
def FnErrorsAddReversedScriptReversesOnlyTiesWrongFalsely : Prop := fnErrorsAddReversedScriptReversesOnlyTiesRow.holds Try.pinned (OpenSpec.ofChange fnErrorsAddReversedScriptReversesOnlyTiesWrong)

end Rows
end Go.Proofs.Qxb6608988a
