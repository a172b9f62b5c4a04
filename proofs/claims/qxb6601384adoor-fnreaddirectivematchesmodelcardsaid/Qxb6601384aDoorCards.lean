/-
  DERIVED. GIVEN WITH THE SEED: THE CARDS: each row of Qxb6601384aDoorRows.lean that lists a variable, with what it lists TIED to the program's text (the seventh form; the later family's looks); each row that meets fmt, with fmt's text TOLD by the authors' own Lean function (tested against real Go, not proved from fmt's source: count such statements apart). THE CARD IS WHAT COUNTS. Prove the row's statement (the work); the ties are given (Qxb6601384aDoorTie.lean); close each card by the builder's one call (the guide's Derived/Test/ToyasCard.lean, 'card_holds'). Laid BY PROGRAM, IN A SANDBOX (cutbox-door.mjs). By AI agents, Wed Nov 11 2026. No macro, syntax, notation, axiom, sorry.
-/
import Derived.Test.Qxb6601384aDoorRows
import GoSem.ClaimSeven
namespace Go.Proofs.Qxb6601384aDoor
namespace Rows

/-- THE TIED CARD OF 'zzlaws_internal_datetime_b1.FnReadDirectiveMatchesModel'. -/
def fnReadDirectiveMatchesModelCard : Claim7 := { stood := { row := fnReadDirectiveMatchesModelRow, standIns := [], harness := (true, "533778a5ce59889b72bfd4acd8150fe0ff293ae40cd0fe5405707c0c78b8a3d0"), looks := true }, kinds := [], alts := [], laidByText := true, laidKinds := [.data, .data, .data, .sentinel, .sentinel], laidTests := true, laidLooks := .later }
def FnReadDirectiveMatchesModelCardSaid : Prop := Claim7.holds Tryd.pinned (.plain (OpenSpec.ofChange fnReadDirectiveMatchesModelSpec)) fnReadDirectiveMatchesModelCard

/-- THE TIED CARD OF 'zzlaws_internal_datetime_b1.FnReadDirectiveReadsOnlyItsOwnBytes'. -/
def fnReadDirectiveReadsOnlyItsOwnBytesCard : Claim7 := { stood := { row := fnReadDirectiveReadsOnlyItsOwnBytesRow, standIns := [], harness := (true, "533778a5ce59889b72bfd4acd8150fe0ff293ae40cd0fe5405707c0c78b8a3d0"), looks := true }, kinds := [], alts := [], laidByText := true, laidKinds := [.data, .data, .data, .sentinel, .sentinel], laidTests := true, laidLooks := .later }
def FnReadDirectiveReadsOnlyItsOwnBytesCardSaid : Prop := Claim7.holds Tryd.pinned (.plain (OpenSpec.ofChange fnReadDirectiveReadsOnlyItsOwnBytesSpec)) fnReadDirectiveReadsOnlyItsOwnBytesCard

/-- THE TIED CARD OF 'zzlaws_internal_datetime_b1.FnReadDirectiveCanonicalRoundTrip'. -/
def fnReadDirectiveCanonicalRoundTripCard : Claim7 := { stood := { row := fnReadDirectiveCanonicalRoundTripRow, standIns := [], harness := (true, "533778a5ce59889b72bfd4acd8150fe0ff293ae40cd0fe5405707c0c78b8a3d0"), looks := true }, kinds := [], alts := [], laidByText := true, laidKinds := [.data, .data, .data, .sentinel, .sentinel], laidTests := true, laidLooks := .later }
def FnReadDirectiveCanonicalRoundTripCardSaid : Prop := Claim7.holds Tryd.pinned (.plain (OpenSpec.ofChange fnReadDirectiveCanonicalRoundTripSpec)) fnReadDirectiveCanonicalRoundTripCard
end Rows
end Go.Proofs.Qxb6601384aDoor
