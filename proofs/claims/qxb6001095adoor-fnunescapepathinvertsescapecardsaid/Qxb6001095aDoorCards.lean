/-
  DERIVED. GIVEN WITH THE SEED: THE CARDS: each row of Qxb6001095aDoorRows.lean that lists a variable, with what it lists TIED to the program's text (the seventh form; the later family's looks); each row that meets fmt, with fmt's text TOLD by the authors' own Lean function (tested against real Go, not proved from fmt's source: count such statements apart). THE CARD IS WHAT COUNTS. Prove the row's statement (the work); the ties are given (Qxb6001095aDoorTie.lean); close each card by the builder's one call (the guide's Derived/Test/ToyasCard.lean, 'card_holds'). Laid BY PROGRAM, IN A SANDBOX (cutbox-door.mjs). By AI agents, Wed Nov 11 2026. No macro, syntax, notation, axiom, sorry.
-/
import Derived.Test.Qxb6001095aDoorRows
import GoSem.ClaimSeven
namespace Go.Proofs.Qxb6001095aDoor
namespace Rows

/-- THE TIED CARD OF 'zzlaws_internal_mountinfo_b1.FnUnescapePathInvertsEscape'. -/
def fnUnescapePathInvertsEscapeCard : Claim7 := { stood := { row := fnUnescapePathInvertsEscapeRow, standIns := [], harness := (true, "698e220e4a2902233830c7e82a417ec75e3d720c683cf890cd2f91c2a0e1bf1f"), looks := true }, kinds := [], alts := [], laidByText := true, laidKinds := [.data, .data, .data, .sentinel, .sentinel], laidTests := true, laidLooks := .later }
def FnUnescapePathInvertsEscapeCardSaid : Prop := Claim7.holds Tryd.pinned (.plain (OpenSpec.ofChange fnUnescapePathInvertsEscapeSpec)) fnUnescapePathInvertsEscapeCard

/-- THE TIED CARD OF 'zzlaws_internal_mountinfo_b1.FnUnescapePathShrinksByWholeEscapes'. -/
def fnUnescapePathShrinksByWholeEscapesCard : Claim7 := { stood := { row := fnUnescapePathShrinksByWholeEscapesRow, standIns := [], harness := (true, "698e220e4a2902233830c7e82a417ec75e3d720c683cf890cd2f91c2a0e1bf1f"), looks := true }, kinds := [], alts := [], laidByText := true, laidKinds := [.data, .data, .data, .sentinel, .sentinel], laidTests := true, laidLooks := .later }
def FnUnescapePathShrinksByWholeEscapesCardSaid : Prop := Claim7.holds Tryd.pinned (.plain (OpenSpec.ofChange fnUnescapePathShrinksByWholeEscapesSpec)) fnUnescapePathShrinksByWholeEscapesCard

/-- THE TIED CARD OF 'zzlaws_internal_mountinfo_b1.FnHasOptionSplitsOverComma'. -/
def fnHasOptionSplitsOverCommaCard : Claim7 := { stood := { row := fnHasOptionSplitsOverCommaRow, standIns := [], harness := (true, "698e220e4a2902233830c7e82a417ec75e3d720c683cf890cd2f91c2a0e1bf1f"), looks := true }, kinds := [], alts := [], laidByText := true, laidKinds := [.data, .pinned], laidTests := true, laidLooks := .later }
def FnHasOptionSplitsOverCommaCardSaid : Prop := Claim7.holds Tryd.pinned (.plain (OpenSpec.ofChange fnHasOptionSplitsOverCommaSpec)) fnHasOptionSplitsOverCommaCard

/-- THE TIED CARD OF 'zzlaws_internal_mountinfo_b1.FnHasOptionMatchesCommaBoundedOccurrence'. -/
def fnHasOptionMatchesCommaBoundedOccurrenceCard : Claim7 := { stood := { row := fnHasOptionMatchesCommaBoundedOccurrenceRow, standIns := [], harness := (true, "698e220e4a2902233830c7e82a417ec75e3d720c683cf890cd2f91c2a0e1bf1f"), looks := true }, kinds := [], alts := [], laidByText := true, laidKinds := [.data, .pinned], laidTests := true, laidLooks := .later }
def FnHasOptionMatchesCommaBoundedOccurrenceCardSaid : Prop := Claim7.holds Tryd.pinned (.plain (OpenSpec.ofChange fnHasOptionMatchesCommaBoundedOccurrenceSpec)) fnHasOptionMatchesCommaBoundedOccurrenceCard

/-- THE TIED CARD OF 'zzlaws_internal_mountinfo_b1.FnHasOptionRefusesCommaHoldingOption'. -/
def fnHasOptionRefusesCommaHoldingOptionCard : Claim7 := { stood := { row := fnHasOptionRefusesCommaHoldingOptionRow, standIns := [], harness := (true, "698e220e4a2902233830c7e82a417ec75e3d720c683cf890cd2f91c2a0e1bf1f"), looks := true }, kinds := [], alts := [], laidByText := true, laidKinds := [.data, .pinned], laidTests := true, laidLooks := .later }
def FnHasOptionRefusesCommaHoldingOptionCardSaid : Prop := Claim7.holds Tryd.pinned (.plain (OpenSpec.ofChange fnHasOptionRefusesCommaHoldingOptionSpec)) fnHasOptionRefusesCommaHoldingOptionCard

/-- THE TIED CARD OF 'zzlaws_internal_mountinfo_b1.FnParseSplitsOverNewline'. -/
def fnParseSplitsOverNewlineCard : Claim7 := { stood := { row := fnParseSplitsOverNewlineRow, standIns := [], harness := (true, "698e220e4a2902233830c7e82a417ec75e3d720c683cf890cd2f91c2a0e1bf1f"), looks := true }, kinds := [], alts := [], laidByText := true, laidKinds := [.data, .data, .data, .data, .sentinel, .sentinel, .listed, .data, .pinned], laidTests := true, laidLooks := .later }
def FnParseSplitsOverNewlineCardSaid : Prop := Claim7.holds Tryd.pinned (.plain (OpenSpec.ofChange fnParseSplitsOverNewlineSpec)) fnParseSplitsOverNewlineCard

/-- THE TIED CARD OF 'zzlaws_internal_mountinfo_b1.FnParseHonoursItsShape'. -/
def fnParseHonoursItsShapeCard : Claim7 := { stood := { row := fnParseHonoursItsShapeRow, standIns := [], harness := (true, "698e220e4a2902233830c7e82a417ec75e3d720c683cf890cd2f91c2a0e1bf1f"), looks := true }, kinds := [], alts := [], laidByText := true, laidKinds := [.data, .data, .data, .data, .sentinel, .sentinel, .listed, .data, .pinned], laidTests := true, laidLooks := .later }
def FnParseHonoursItsShapeCardSaid : Prop := Claim7.holds Tryd.pinned (.plain (OpenSpec.ofChange fnParseHonoursItsShapeSpec)) fnParseHonoursItsShapeCard

/-- THE TIED CARD OF 'zzlaws_internal_mountinfo_b1.FnParseInvertsRender'. -/
def fnParseInvertsRenderCard : Claim7 := { stood := { row := fnParseInvertsRenderRow, standIns := [], harness := (true, "698e220e4a2902233830c7e82a417ec75e3d720c683cf890cd2f91c2a0e1bf1f"), looks := true }, kinds := [], alts := [], laidByText := true, laidKinds := [.data, .data, .data, .data, .sentinel, .sentinel, .listed, .data, .pinned], laidTests := true, laidLooks := .later }
def FnParseInvertsRenderCardSaid : Prop := Claim7.holds Tryd.pinned (.plain (OpenSpec.ofChange fnParseInvertsRenderSpec)) fnParseInvertsRenderCard
end Rows
end Go.Proofs.Qxb6001095aDoor
