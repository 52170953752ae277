/-
  DERIVED. GIVEN WITH THE SEED: THE CARDS: each row of Qxb6614257aDoorRows.lean that lists a variable, with what it lists TIED to the program's text (the seventh form; the later family's looks); each row that meets fmt, with fmt's text TOLD by the authors' own Lean function (tested against real Go, not proved from fmt's source: count such statements apart). THE CARD IS WHAT COUNTS. Prove the row's statement (the work); the ties are given (Qxb6614257aDoorTie.lean); close each card by the builder's one call (the guide's Derived/Test/ToyasCard.lean, 'card_holds'). Laid BY PROGRAM, IN A SANDBOX (cutbox-door.mjs). By AI agents, Wed Nov 11 2026. No macro, syntax, notation, axiom, sorry.
-/
import Derived.Test.Qxb6614257aDoorRows
import GoSem.ClaimSeven
namespace Go.Proofs.Qxb6614257aDoor
namespace Rows

/-- THE TIED CARD OF 'zzlaws_client_b1.FnWorkerPathReadsBackItsNames'. -/
def fnWorkerPathReadsBackItsNamesCard : Claim7 := { stood := { row := fnWorkerPathReadsBackItsNamesRow, standIns := [], harness := (true, "ec7c7aa2ada1a1a18fc0160e30cee370f72d326d185c413eea8101f99a559c5b"), looks := false }, kinds := [], alts := [], laidByText := true, laidKinds := [.data], laidTests := true, laidLooks := .later }
def FnWorkerPathReadsBackItsNamesCardSaid : Prop := Claim7.holds Tryd.pinned (.plain (OpenSpec.ofChange fnWorkerPathReadsBackItsNamesSpec)) fnWorkerPathReadsBackItsNamesCard

/-- THE TIED CARD OF 'zzlaws_client_b1.FnWorkerPathLiesUnderItsConsumerAndNamesOneWorker'. -/
def fnWorkerPathLiesUnderItsConsumerAndNamesOneWorkerCard : Claim7 := { stood := { row := fnWorkerPathLiesUnderItsConsumerAndNamesOneWorkerRow, standIns := [], harness := (true, "ec7c7aa2ada1a1a18fc0160e30cee370f72d326d185c413eea8101f99a559c5b"), looks := false }, kinds := [], alts := [], laidByText := true, laidKinds := [.data], laidTests := true, laidLooks := .later }
def FnWorkerPathLiesUnderItsConsumerAndNamesOneWorkerCardSaid : Prop := Claim7.holds Tryd.pinned (.plain (OpenSpec.ofChange fnWorkerPathLiesUnderItsConsumerAndNamesOneWorkerSpec)) fnWorkerPathLiesUnderItsConsumerAndNamesOneWorkerCard
end Rows
end Go.Proofs.Qxb6614257aDoor
