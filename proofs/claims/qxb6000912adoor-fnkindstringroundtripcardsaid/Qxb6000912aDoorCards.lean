/-
  DERIVED. GIVEN WITH THE SEED: THE CARDS: each row of Qxb6000912aDoorRows.lean that lists a variable, with what it lists TIED to the program's text (the seventh form; the later family's looks); each row that meets fmt, with fmt's text TOLD by the authors' own Lean function (tested against real Go, not proved from fmt's source: count such statements apart). THE CARD IS WHAT COUNTS. Prove the row's statement (the work); the ties are given (Qxb6000912aDoorTie.lean); close each card by the builder's one call (the guide's Derived/Test/ToyasCard.lean, 'card_holds'). Laid BY PROGRAM, IN A SANDBOX (cutbox-door.mjs). By AI agents, Wed Nov 11 2026. No macro, syntax, notation, axiom, sorry.
-/
import Derived.Test.Qxb6000912aDoorRows
import GoSem.ClaimSeven
namespace Go.Proofs.Qxb6000912aDoor
namespace Rows

/-- THE TIED CARD OF 'zzlaws_internal_raft_b1.FnMsgTypeStringRoundTrip'. -/
def fnMsgTypeStringRoundTripCard : Claim7 := { stood := { row := fnMsgTypeStringRoundTripRow, standIns := [], harness := (true, "f60c9fe67c08e3733c0ba93d0655c45f2305d16866694ee204326f2c3c37e6d5"), looks := false }, kinds := [], alts := [], laidByText := true, laidKinds := [.data, .data, .data], laidTests := true, laidLooks := .later }
def FnMsgTypeStringRoundTripCardSaid : Prop := Claim7.holds Tryd.pinned (.plain (OpenSpec.ofChange fnMsgTypeStringRoundTripSpec)) fnMsgTypeStringRoundTripCard

/-- THE TIED CARD OF 'zzlaws_internal_raft_b1.FnMsgTypeStringInjective'. -/
def fnMsgTypeStringInjectiveCard : Claim7 := { stood := { row := fnMsgTypeStringInjectiveRow, standIns := [], harness := (true, "f60c9fe67c08e3733c0ba93d0655c45f2305d16866694ee204326f2c3c37e6d5"), looks := false }, kinds := [], alts := [], laidByText := true, laidKinds := [.data, .data, .data], laidTests := true, laidLooks := .later }
def FnMsgTypeStringInjectiveCardSaid : Prop := Claim7.holds Tryd.pinned (.plain (OpenSpec.ofChange fnMsgTypeStringInjectiveSpec)) fnMsgTypeStringInjectiveCard

/-- THE TIED CARD OF 'zzlaws_internal_raft_b1.FnKindStringRoundTrip'. -/
def fnKindStringRoundTripCard : Claim7 := { stood := { row := fnKindStringRoundTripRow, standIns := [], harness := (true, "f60c9fe67c08e3733c0ba93d0655c45f2305d16866694ee204326f2c3c37e6d5"), looks := false }, kinds := [], alts := [], laidByText := true, laidKinds := [.data, .data, .data], laidTests := true, laidLooks := .later }
def FnKindStringRoundTripCardSaid : Prop := Claim7.holds Tryd.pinned (.plain (OpenSpec.ofChange fnKindStringRoundTripSpec)) fnKindStringRoundTripCard

/-- THE TIED CARD OF 'zzlaws_internal_raft_b1.FnKindStringInjective'. -/
def fnKindStringInjectiveCard : Claim7 := { stood := { row := fnKindStringInjectiveRow, standIns := [], harness := (true, "f60c9fe67c08e3733c0ba93d0655c45f2305d16866694ee204326f2c3c37e6d5"), looks := false }, kinds := [], alts := [], laidByText := true, laidKinds := [.data, .data, .data], laidTests := true, laidLooks := .later }
def FnKindStringInjectiveCardSaid : Prop := Claim7.holds Tryd.pinned (.plain (OpenSpec.ofChange fnKindStringInjectiveSpec)) fnKindStringInjectiveCard

/-- THE TIED CARD OF 'zzlaws_internal_raft_b1.FnKindAndMsgTypeNamesDiffer'. -/
def fnKindAndMsgTypeNamesDifferCard : Claim7 := { stood := { row := fnKindAndMsgTypeNamesDifferRow, standIns := [], harness := (true, "f60c9fe67c08e3733c0ba93d0655c45f2305d16866694ee204326f2c3c37e6d5"), looks := false }, kinds := [], alts := [], laidByText := true, laidKinds := [.data, .data, .data], laidTests := true, laidLooks := .later }
def FnKindAndMsgTypeNamesDifferCardSaid : Prop := Claim7.holds Tryd.pinned (.plain (OpenSpec.ofChange fnKindAndMsgTypeNamesDifferSpec)) fnKindAndMsgTypeNamesDifferCard
end Rows
end Go.Proofs.Qxb6000912aDoor
