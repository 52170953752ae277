/-
  DERIVED. GIVEN WITH THE SEED: THE CARDS: each row of Qxb6613972aDoorRows.lean that lists a variable, with what it lists TIED to the program's text (the seventh form; the later family's looks); each row that meets fmt, with fmt's text TOLD by the authors' own Lean function (tested against real Go, not proved from fmt's source: count such statements apart). THE CARD IS WHAT COUNTS. Prove the row's statement (the work); the ties are given (Qxb6613972aDoorTie.lean); close each card by the builder's one call (the guide's Derived/Test/ToyasCard.lean, 'card_holds'). Laid BY PROGRAM, IN A SANDBOX (cutbox-door.mjs). By AI agents, Wed Nov 11 2026. No macro, syntax, notation, axiom, sorry.
-/
import Derived.Test.Qxb6613972aDoorRows
import GoSem.ClaimSeven
namespace Go.Proofs.Qxb6613972aDoor
namespace Rows

/-- THE TIED CARD OF 'zzlaws_root_b1.FnChunkedShiftRoundTrip'. -/
def fnChunkedShiftRoundTripCard : Claim7 := { stood := { row := fnChunkedShiftRoundTripRow, standIns := [], harness := (true, "c89f6f297edf0d4efd8ac307340bc0bb9c01cfdcb2143e3ba09debea74630975"), looks := false }, kinds := [], alts := [], laidByText := true, laidKinds := [.data, .data], laidTests := true, laidLooks := .later }
def FnChunkedShiftRoundTripCardSaid : Prop := Claim7.holds Tryd.pinned (.plain (OpenSpec.ofChange fnChunkedShiftRoundTripSpec)) fnChunkedShiftRoundTripCard
end Rows
end Go.Proofs.Qxb6613972aDoor
