/-
  No cell of these rows narrows 'for every input' (looked for: loops, veiled, ifaces, maps, wideKeys, modest, calm, conditions, laid).
  DERIVED. THE GIVEN ROWS OF THIS SEAT. 3 by the template 'for every input the law returns true; each argument reads behind the call as it read before'; 0 by the template 'total and deterministic' (their statements: Qxb6614187aTotals.lean).
  GIVEN WITH THE SEED: the statements are not yours to turn. If you find one false, say at which input.
  Laid BY PROGRAM, IN A SANDBOX (cutbox-rows.mjs): the forced cells as the released guide's own fill.sh prints them over the translation a658625ef2ac05f0… (all of the seat's roots in one cut). By AI agents, Wed Nov 11 2026. No macro, syntax, notation, axiom, sorry.
-/
import Derived.Test.Qxb6614187aChecked
import GoSem.Claim
import GoSem.ClaimJoined
import GoSem.ClaimMapViews
import Derived.JoinedTies
import Derived.KernelRfl
namespace Go.Proofs.Qxb6614187a
/- THE CELL 'sum', in the pinned program and in every row, IS THE sha256 OF THE DUMP (.gsa) THAT Qxb6614187aProg.lean LOADS. Nothing in Lean hashes anything: it is a label: what it is worth is what the hold of that sum in a sandbox is worth. -/
noncomputable def Try.pinned : Pinned := { name := "qxb6614187a", sum := "a658625ef2ac05f073081f0115d7881a045d2e283768e556769a4d139f3350fe", checked := Try.checked }
namespace Rows
def none {H : Type} : Left H := { results := [], args := [] }

/-- 'zzlaws_root_b1.FnValidNameCutAtAnyPlace': WHATEVER THE INPUT: true; the input reads as it did. -/
def fnValidNameCutAtAnyPlaceSpec : ChangeSpec := { name := "fnValidNameCutAtAnyPlace", fn := fun _ => fun
  | [d1, d2] => { results := [.lit (.bool true)], args := [d1, d2] }
  | _ => none }
def fnValidNameCutAtAnyPlaceRow : OpenClaim := { program := "qxb6614187a", sum := "a658625ef2ac05f073081f0115d7881a045d2e283768e556769a4d139f3350fe", func := "example.com/ninefold/ninefold/zzlaws_root_b1.FnValidNameCutAtAnyPlace", spec := "fnValidNameCutAtAnyPlace", inPlace := ["internal/bytealg.IndexByteString", "internal/bytealg.IndexString"], named := ["internal/bytealg.MaxLen"], apart := false }
def FnValidNameCutAtAnyPlaceSaid : Prop := fnValidNameCutAtAnyPlaceRow.holds Try.pinned (OpenSpec.ofChange fnValidNameCutAtAnyPlaceSpec)

/-- ITS FALSE NEIGHBOUR: 'it returns false'. Refute it at one input. -/
def fnValidNameCutAtAnyPlaceWrong : ChangeSpec := { name := "fnValidNameCutAtAnyPlace", fn := fun _ => fun
  | [d1, d2] => { results := [.lit (.bool false)], args := [d1, d2] }
  | _ => none }
def FnValidNameCutAtAnyPlaceWrongFalsely : Prop := fnValidNameCutAtAnyPlaceRow.holds Try.pinned (OpenSpec.ofChange fnValidNameCutAtAnyPlaceWrong)

/-- 'zzlaws_root_b1.FnValidNameSlashOrMarkPutInAnywhere': WHATEVER THE INPUT: true; the input reads as it did. -/
def fnValidNameSlashOrMarkPutInAnywhereSpec : ChangeSpec := { name := "fnValidNameSlashOrMarkPutInAnywhere", fn := fun _ => fun
  | [d1, d2] => { results := [.lit (.bool true)], args := [d1, d2] }
  | _ => none }
def fnValidNameSlashOrMarkPutInAnywhereRow : OpenClaim := { program := "qxb6614187a", sum := "a658625ef2ac05f073081f0115d7881a045d2e283768e556769a4d139f3350fe", func := "example.com/ninefold/ninefold/zzlaws_root_b1.FnValidNameSlashOrMarkPutInAnywhere", spec := "fnValidNameSlashOrMarkPutInAnywhere", inPlace := ["internal/bytealg.IndexByteString", "internal/bytealg.IndexString"], named := ["internal/bytealg.MaxLen"], apart := false }
def FnValidNameSlashOrMarkPutInAnywhereSaid : Prop := fnValidNameSlashOrMarkPutInAnywhereRow.holds Try.pinned (OpenSpec.ofChange fnValidNameSlashOrMarkPutInAnywhereSpec)

/-- ITS FALSE NEIGHBOUR: 'it returns false'. Refute it at one input. -/
def fnValidNameSlashOrMarkPutInAnywhereWrong : ChangeSpec := { name := "fnValidNameSlashOrMarkPutInAnywhere", fn := fun _ => fun
  | [d1, d2] => { results := [.lit (.bool false)], args := [d1, d2] }
  | _ => none }
def FnValidNameSlashOrMarkPutInAnywhereWrongFalsely : Prop := fnValidNameSlashOrMarkPutInAnywhereRow.holds Try.pinned (OpenSpec.ofChange fnValidNameSlashOrMarkPutInAnywhereWrong)

/-- 'zzlaws_root_b1.FnInFlightAddScriptFromEmpty': WHATEVER THE INPUT: true; the input reads as it did. -/
def fnInFlightAddScriptFromEmptySpec : ChangeSpec := { name := "fnInFlightAddScriptFromEmpty", fn := fun _ => fun
  | [d] => { results := [.lit (.bool true)], args := [d] }
  | _ => none }
def fnInFlightAddScriptFromEmptyRow : OpenClaim := { program := "qxb6614187a", sum := "a658625ef2ac05f073081f0115d7881a045d2e283768e556769a4d139f3350fe", func := "example.com/ninefold/ninefold/zzlaws_root_b1.FnInFlightAddScriptFromEmpty", spec := "fnInFlightAddScriptFromEmpty", apart := false }
def FnInFlightAddScriptFromEmptySaid : Prop := fnInFlightAddScriptFromEmptyRow.holds Try.pinned (OpenSpec.ofChange fnInFlightAddScriptFromEmptySpec)

/-- ITS FALSE NEIGHBOUR: 'it returns false'. Refute it at one input. -/
def fnInFlightAddScriptFromEmptyWrong : ChangeSpec := { name := "fnInFlightAddScriptFromEmpty", fn := fun _ => fun
  | [d] => { results := [.lit (.bool false)], args := [d] }
  | _ => none }
def FnInFlightAddScriptFromEmptyWrongFalsely : Prop := fnInFlightAddScriptFromEmptyRow.holds Try.pinned (OpenSpec.ofChange fnInFlightAddScriptFromEmptyWrong)

end Rows
end Go.Proofs.Qxb6614187a
