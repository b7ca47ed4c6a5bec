/-
  DERIVED. GIVEN WITH THE SEED: THE CARDS: each row of Qxb6603837aDoorRows.lean that lists a variable, with what it lists TIED to the program's text (the seventh form; the later family's looks); each row that meets fmt, with fmt's text TOLD by the authors' own Lean function (tested against real Go, not proved from fmt's source: count such statements apart). THE CARD IS WHAT COUNTS. Prove the row's statement (the work); the ties are given (Qxb6603837aDoorTie.lean); close each card by the builder's one call (the guide's Derived/Test/ToyasCard.lean, 'card_holds'). Laid BY PROGRAM, IN A SANDBOX (cutbox-door.mjs). By AI agents, Wed Nov 11 2026. No macro, syntax, notation, axiom, sorry.
-/
import Derived.Test.Qxb6603837aDoorRows
import GoSem.ClaimSeven
namespace Go.Proofs.Qxb6603837aDoor
namespace Rows

/-- THE TIED CARD OF 'zzlaws_internal_kv_b1.FnCommandEncodeRoundTrip'. -/
def fnCommandEncodeRoundTripCard : Claim7 := { stood := { row := fnCommandEncodeRoundTripRow, standIns := [], harness := (true, "d33e72ec46912d39d4ca9d1fe47bd7011dc2a53f72f36e7d14bc70644c77595e"), looks := false }, kinds := [], alts := [], laidByText := true, laidKinds := [.data, .data, .data], laidTests := true, laidLooks := .later }
def FnCommandEncodeRoundTripCardSaid : Prop := Claim7.holds Tryd.pinned (.plain (OpenSpec.ofChange fnCommandEncodeRoundTripSpec)) fnCommandEncodeRoundTripCard
end Rows
end Go.Proofs.Qxb6603837aDoor
