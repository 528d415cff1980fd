/-
  DERIVED. GIVEN WITH THE SEED: THE CARDS: each row of Qxb6608729aDoorRows.lean that lists a variable, with what it lists TIED to the program's text (the seventh form; the later family's looks); each row that meets fmt, with fmt's text TOLD by the authors' own Lean function (tested against real Go, not proved from fmt's source: count such statements apart). THE CARD IS WHAT COUNTS. Prove the row's statement (the work); the ties are given (Qxb6608729aDoorTie.lean); close each card by the builder's one call (the guide's Derived/Test/ToyasCard.lean, 'card_holds'). Laid BY PROGRAM, IN A SANDBOX (cutbox-door.mjs). By AI agents, Wed Nov 11 2026. No macro, syntax, notation, axiom, sorry.
-/
import Derived.Test.Qxb6608729aDoorRows
import GoSem.ClaimSeven
namespace Go.Proofs.Qxb6608729aDoor
namespace Rows

/-- THE TIED CARD OF 'zzlaws_root_b1.FnCutEntryRangeAnySpacing'. -/
def fnCutEntryRangeAnySpacingCard : Claim7 := { stood := { row := fnCutEntryRangeAnySpacingRow, standIns := [], harness := (true, "3a663f105561a7c8aefb9b88a77c86522873fc99c3a033d8c10ef070ae698ea4"), looks := false }, kinds := [], alts := [], laidByText := true, laidKinds := [.data, .listed, .data, .pinned], laidTests := true, laidLooks := .later }
def FnCutEntryRangeAnySpacingCardSaid : Prop := Claim7.holds Tryd.pinned (.plain (OpenSpec.ofChange fnCutEntryRangeAnySpacingSpec)) fnCutEntryRangeAnySpacingCard

/-- THE TIED CARD OF 'zzlaws_root_b1.FnCutEntryPlainEntryKeepsValue'. -/
def fnCutEntryPlainEntryKeepsValueCard : Claim7 := { stood := { row := fnCutEntryPlainEntryKeepsValueRow, standIns := [], harness := (true, "3a663f105561a7c8aefb9b88a77c86522873fc99c3a033d8c10ef070ae698ea4"), looks := false }, kinds := [], alts := [], laidByText := true, laidKinds := [.data, .listed, .data, .pinned], laidTests := true, laidLooks := .later }
def FnCutEntryPlainEntryKeepsValueCardSaid : Prop := Claim7.holds Tryd.pinned (.plain (OpenSpec.ofChange fnCutEntryPlainEntryKeepsValueSpec)) fnCutEntryPlainEntryKeepsValueCard

/-- THE TIED CARD OF 'zzlaws_root_b1.FnSlotLeafRenumbering'. -/
def fnSlotLeafRenumberingCard : Claim7 := { stood := { row := fnSlotLeafRenumberingRow, standIns := [], harness := (true, "3a663f105561a7c8aefb9b88a77c86522873fc99c3a033d8c10ef070ae698ea4"), looks := false }, kinds := [], alts := [], laidByText := true, laidKinds := [.data, .data], laidTests := true, laidLooks := .later }
def FnSlotLeafRenumberingCardSaid : Prop := Claim7.holds Tryd.pinned (.plain (OpenSpec.ofChange fnSlotLeafRenumberingSpec)) fnSlotLeafRenumberingCard

/-- THE TIED CARD OF 'zzlaws_root_b1.FnWidthOfAdditiveExact6'. -/
def fnWidthOfAdditiveExact6Card : Claim7 := { stood := { row := fnWidthOfAdditiveExact6Row, standIns := [], harness := (true, "3a663f105561a7c8aefb9b88a77c86522873fc99c3a033d8c10ef070ae698ea4"), looks := false }, kinds := [], alts := [], laidByText := true, laidKinds := [.called, .called, .zero], laidTests := true, laidLooks := .later }
def FnWidthOfAdditiveExact6CardSaid : Prop := Claim7.holds Tryd.pinned (.plain (OpenSpec.ofChange fnWidthOfAdditiveExact6Spec)) fnWidthOfAdditiveExact6Card

/-- THE TIED CARD OF 'zzlaws_root_b1.FnWidthOfIPv4AgreesWithMapped'. -/
def fnWidthOfIPv4AgreesWithMappedCard : Claim7 := { stood := { row := fnWidthOfIPv4AgreesWithMappedRow, standIns := [], harness := (true, "3a663f105561a7c8aefb9b88a77c86522873fc99c3a033d8c10ef070ae698ea4"), looks := false }, kinds := [], alts := [], laidByText := true, laidKinds := [.called, .called, .zero], laidTests := true, laidLooks := .later }
def FnWidthOfIPv4AgreesWithMappedCardSaid : Prop := Claim7.holds Tryd.pinned (.plain (OpenSpec.ofChange fnWidthOfIPv4AgreesWithMappedSpec)) fnWidthOfIPv4AgreesWithMappedCard
end Rows
end Go.Proofs.Qxb6608729aDoor
