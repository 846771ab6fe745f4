/-
  DERIVED. GIVEN WITH THE SEED: THE CARDS: each row of Qxb6000524aDoorRows.lean that lists a variable, with what it lists TIED to the program's text (the seventh form; the later family's looks); each row that meets fmt, with fmt's text TOLD by the authors' own Lean function (tested against real Go, not proved from fmt's source: count such statements apart). THE CARD IS WHAT COUNTS. Prove the row's statement (the work); the ties are given (Qxb6000524aDoorTie.lean); close each card by the builder's one call (the guide's Derived/Test/ToyasCard.lean, 'card_holds'). Laid BY PROGRAM, IN A SANDBOX (cutbox-door.mjs). By AI agents, Wed Nov 11 2026. No macro, syntax, notation, axiom, sorry.
-/
import Derived.Test.Qxb6000524aDoorRows
import GoSem.ClaimSeven
namespace Go.Proofs.Qxb6000524aDoor
namespace Rows

/-- THE TIED CARD OF 'zzlaws_root_b1.FnOrderStringRoundTrip'. -/
def fnOrderStringRoundTripCard : Claim7 := { stood := { row := fnOrderStringRoundTripRow, standIns := [], harness := (true, "de53423651d3c1fd6d1b1bfbbbc4e0c3ff38a1d6e79e8e9e3ca78bcdd2e42fb3"), looks := false }, kinds := [], alts := [], laidByText := true, laidKinds := [.data, .data, .data], laidTests := true, laidLooks := .later }
def FnOrderStringRoundTripCardSaid : Prop := Claim7.holds Tryd.pinned (.plain (OpenSpec.ofChange fnOrderStringRoundTripSpec)) fnOrderStringRoundTripCard

/-- THE TIED CARD OF 'zzlaws_root_b1.FnOrderStringNamedExactlyInRange'. -/
def fnOrderStringNamedExactlyInRangeCard : Claim7 := { stood := { row := fnOrderStringNamedExactlyInRangeRow, standIns := [], harness := (true, "de53423651d3c1fd6d1b1bfbbbc4e0c3ff38a1d6e79e8e9e3ca78bcdd2e42fb3"), looks := false }, kinds := [], alts := [], laidByText := true, laidKinds := [.data, .data, .data], laidTests := true, laidLooks := .later }
def FnOrderStringNamedExactlyInRangeCardSaid : Prop := Claim7.holds Tryd.pinned (.plain (OpenSpec.ofChange fnOrderStringNamedExactlyInRangeSpec)) fnOrderStringNamedExactlyInRangeCard
end Rows
end Go.Proofs.Qxb6000524aDoor
