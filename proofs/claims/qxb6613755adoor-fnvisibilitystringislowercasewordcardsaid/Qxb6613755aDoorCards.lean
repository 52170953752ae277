/-
  DERIVED. GIVEN WITH THE SEED: THE CARDS: each row of Qxb6613755aDoorRows.lean that lists a variable, with what it lists TIED to the program's text (the seventh form; the later family's looks); each row that meets fmt, with fmt's text TOLD by the authors' own Lean function (tested against real Go, not proved from fmt's source: count such statements apart). THE CARD IS WHAT COUNTS. Prove the row's statement (the work); the ties are given (Qxb6613755aDoorTie.lean); close each card by the builder's one call (the guide's Derived/Test/ToyasCard.lean, 'card_holds'). Laid BY PROGRAM, IN A SANDBOX (cutbox-door.mjs). By AI agents, Wed Nov 11 2026. No macro, syntax, notation, axiom, sorry.
-/
import Derived.Test.Qxb6613755aDoorRows
import GoSem.ClaimSeven
namespace Go.Proofs.Qxb6613755aDoor
namespace Rows

/-- THE TIED CARD OF 'zzlaws_access_b1.FnVisibilityStringNamesDistinctPrefixFree'. -/
def fnVisibilityStringNamesDistinctPrefixFreeCard : Claim7 := { stood := { row := fnVisibilityStringNamesDistinctPrefixFreeRow, standIns := [], harness := (true, "2503221f5a5a0ed5778488b5ca1cbc883b58215d7ae32bea18576ffbb1c1b87e"), looks := false }, kinds := [], alts := [], laidByText := true, laidKinds := [.widerDeep], laidTests := true, laidLooks := .later }
def FnVisibilityStringNamesDistinctPrefixFreeCardSaid : Prop := Claim7.holds Tryd.pinned (.plain (OpenSpec.ofChange fnVisibilityStringNamesDistinctPrefixFreeSpec)) fnVisibilityStringNamesDistinctPrefixFreeCard

/-- THE TIED CARD OF 'zzlaws_access_b1.FnVisibilityStringIsLowercaseWord'. -/
def fnVisibilityStringIsLowercaseWordCard : Claim7 := { stood := { row := fnVisibilityStringIsLowercaseWordRow, standIns := [], harness := (true, "2503221f5a5a0ed5778488b5ca1cbc883b58215d7ae32bea18576ffbb1c1b87e"), looks := false }, kinds := [], alts := [], laidByText := true, laidKinds := [.widerDeep], laidTests := true, laidLooks := .later }
def FnVisibilityStringIsLowercaseWordCardSaid : Prop := Claim7.holds Tryd.pinned (.plain (OpenSpec.ofChange fnVisibilityStringIsLowercaseWordSpec)) fnVisibilityStringIsLowercaseWordCard
end Rows
end Go.Proofs.Qxb6613755aDoor
