/-
  DERIVED. GIVEN WITH THE SEED: THE CARDS: each row of Qxb6000496aDoorRows.lean that lists a variable, with what it lists TIED to the program's text (the seventh form; the later family's looks); each row that meets fmt, with fmt's text TOLD by the authors' own Lean function (tested against real Go, not proved from fmt's source: count such statements apart). THE CARD IS WHAT COUNTS. Prove the row's statement (the work); the ties are given (Qxb6000496aDoorTie.lean); close each card by the builder's one call (the guide's Derived/Test/ToyasCard.lean, 'card_holds'). Laid BY PROGRAM, IN A SANDBOX (cutbox-door.mjs). By AI agents, Wed Nov 11 2026. No macro, syntax, notation, axiom, sorry.
-/
import Derived.Test.Qxb6000496aDoorRows
import GoSem.ClaimSeven
namespace Go.Proofs.Qxb6000496aDoor
namespace Rows

/-- THE TIED CARD OF 'zzlaws_internal_protocol_b1.FnRingIDNumberRoundTrip'. -/
def fnRingIDNumberRoundTripCard : Claim7 := { stood := { row := fnRingIDNumberRoundTripRow, standIns := [], harness := (true, "84acc21c28c8e2fc2ff32605167d9caf5d1406f911138bcc890707685b3c72be"), looks := true }, kinds := [], alts := [], laidByText := true, laidKinds := [.data, .data, .data, .called, .called], laidTests := true, laidLooks := .later }
def FnRingIDNumberRoundTripCardSaid : Prop := Claim7.holds Tryd.pinned (.plain (OpenSpec.ofChange fnRingIDNumberRoundTripSpec)) fnRingIDNumberRoundTripCard

/-- THE TIED CARD OF 'zzlaws_internal_protocol_b1.FnRingIDNumberMatchesModel'. -/
def fnRingIDNumberMatchesModelCard : Claim7 := { stood := { row := fnRingIDNumberMatchesModelRow, standIns := [], harness := (true, "84acc21c28c8e2fc2ff32605167d9caf5d1406f911138bcc890707685b3c72be"), looks := true }, kinds := [], alts := [], laidByText := true, laidKinds := [.data, .data, .data, .called, .called], laidTests := true, laidLooks := .later }
def FnRingIDNumberMatchesModelCardSaid : Prop := Claim7.holds Tryd.pinned (.plain (OpenSpec.ofChange fnRingIDNumberMatchesModelSpec)) fnRingIDNumberMatchesModelCard
end Rows
end Go.Proofs.Qxb6000496aDoor
