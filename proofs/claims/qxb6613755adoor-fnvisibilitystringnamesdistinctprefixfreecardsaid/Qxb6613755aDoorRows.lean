/-
  NARROWER THAN 'FOR EVERY INPUT', by the rows' own cells (each row's printed sentence says how): FnVisibilityStringNamesDistinctPrefixFree: laid · FnVisibilityStringIsLowercaseWord: laid.
  DERIVED. THE GIVEN ROWS OF THIS SEAT. 2 by the template 'for every input the law returns true; each argument reads behind the call as it read before'; 0 by the template 'total and deterministic' (their statements: Qxb6613755aDoorTotals.lean).
  GIVEN WITH THE SEED: the statements are not yours to turn. If you find one false, say at which input.
  Laid BY PROGRAM, IN A SANDBOX (cutbox-rows.mjs): the forced cells as the released guide's own fill.sh prints them over the translation a8868a9d330582ce… (all of the seat's roots in one cut). By AI agents, Wed Nov 11 2026. No macro, syntax, notation, axiom, sorry.
-/
import Derived.Test.Qxb6613755aDoorChecked
import GoSem.Claim
import GoSem.ClaimJoined
import GoSem.ClaimMapViews
import Derived.JoinedTies
import Derived.KernelRfl
namespace Go.Proofs.Qxb6613755aDoor
/- THE CELL 'sum', in the pinned program and in every row, IS THE sha256 OF THE DUMP (.gsa) THAT Qxb6613755aDoorProg.lean LOADS. Nothing in Lean hashes anything: it is a label: what it is worth is what the hold of that sum in a sandbox is worth. -/
noncomputable def Tryd.pinned : Pinned := { name := "qxb6613755adoor", sum := "a8868a9d330582ce64fd0cdf787be575460bea8a6585b5f98db4e26ee13b5993", checked := Tryd.checked }
namespace Rows
def none {H : Type} : Left H := { results := [], args := [] }

/- WHAT THE LISTED PACKAGE-LEVEL VARIABLES READ AS WHEN THE CALL BEGINS. Each datum BY PROGRAM (the guide's laid-datum.mjs) off the statement by which the dump's own 'gosem.cut.vars' lays the variable. In a bare row this is a premise. The card (Qxb6613755aDoorCards.lean) ties it to the program's text. -/
def laid_example_com_gatewright_gatewright_access_visibilityNames {H : Type} : DataW H := .slice [.lit (.string [112, 114, 105, 118, 97, 116, 101]), .lit (.string [100, 101, 112, 97, 114, 116, 109, 101, 110, 116]), .lit (.string [116, 101, 110, 97, 110, 116])] []

/-- 'zzlaws_access_b1.FnVisibilityStringNamesDistinctPrefixFree': WHATEVER THE INPUT: true; the input reads as it did. -/
def fnVisibilityStringNamesDistinctPrefixFreeSpec : ChangeSpec := { name := "fnVisibilityStringNamesDistinctPrefixFree", vars := ["example.com/gatewright/gatewright/access.visibilityNames"], fn := fun _ => fun
  | [d1, d2, g1] => { results := [.lit (.bool true)], args := [d1, d2], vars := [g1] }
  | _ => none }
def fnVisibilityStringNamesDistinctPrefixFreeRow : OpenClaim := { program := "qxb6613755adoor", sum := "a8868a9d330582ce64fd0cdf787be575460bea8a6585b5f98db4e26ee13b5993", func := "example.com/gatewright/gatewright/zzlaws_access_b1.FnVisibilityStringNamesDistinctPrefixFree", spec := "fnVisibilityStringNamesDistinctPrefixFree", named := ["example.com/gatewright/gatewright/access.visibilityNames"], apart := false, laid := [("example.com/gatewright/gatewright/access.visibilityNames", laid_example_com_gatewright_gatewright_access_visibilityNames)] }
def FnVisibilityStringNamesDistinctPrefixFreeSaid : Prop := fnVisibilityStringNamesDistinctPrefixFreeRow.holds Tryd.pinned (OpenSpec.ofChange fnVisibilityStringNamesDistinctPrefixFreeSpec)

/-- ITS FALSE NEIGHBOUR: 'it returns false'. Refute it at one input. -/
def fnVisibilityStringNamesDistinctPrefixFreeWrong : ChangeSpec := { name := "fnVisibilityStringNamesDistinctPrefixFree", vars := ["example.com/gatewright/gatewright/access.visibilityNames"], fn := fun _ => fun
  | [d1, d2, g1] => { results := [.lit (.bool false)], args := [d1, d2], vars := [g1] }
  | _ => none }
def FnVisibilityStringNamesDistinctPrefixFreeWrongFalsely : Prop := fnVisibilityStringNamesDistinctPrefixFreeRow.holds Tryd.pinned (OpenSpec.ofChange fnVisibilityStringNamesDistinctPrefixFreeWrong)

/-- 'zzlaws_access_b1.FnVisibilityStringIsLowercaseWord': WHATEVER THE INPUT: true; the input reads as it did. -/
def fnVisibilityStringIsLowercaseWordSpec : ChangeSpec := { name := "fnVisibilityStringIsLowercaseWord", vars := ["example.com/gatewright/gatewright/access.visibilityNames"], fn := fun _ => fun
  | [d, g1] => { results := [.lit (.bool true)], args := [d], vars := [g1] }
  | _ => none }
def fnVisibilityStringIsLowercaseWordRow : OpenClaim := { program := "qxb6613755adoor", sum := "a8868a9d330582ce64fd0cdf787be575460bea8a6585b5f98db4e26ee13b5993", func := "example.com/gatewright/gatewright/zzlaws_access_b1.FnVisibilityStringIsLowercaseWord", spec := "fnVisibilityStringIsLowercaseWord", named := ["example.com/gatewright/gatewright/access.visibilityNames"], apart := false, laid := [("example.com/gatewright/gatewright/access.visibilityNames", laid_example_com_gatewright_gatewright_access_visibilityNames)] }
def FnVisibilityStringIsLowercaseWordSaid : Prop := fnVisibilityStringIsLowercaseWordRow.holds Tryd.pinned (OpenSpec.ofChange fnVisibilityStringIsLowercaseWordSpec)

/-- ITS FALSE NEIGHBOUR: 'it returns false'. Refute it at one input. -/
def fnVisibilityStringIsLowercaseWordWrong : ChangeSpec := { name := "fnVisibilityStringIsLowercaseWord", vars := ["example.com/gatewright/gatewright/access.visibilityNames"], fn := fun _ => fun
  | [d, g1] => { results := [.lit (.bool false)], args := [d], vars := [g1] }
  | _ => none }
def FnVisibilityStringIsLowercaseWordWrongFalsely : Prop := fnVisibilityStringIsLowercaseWordRow.holds Tryd.pinned (OpenSpec.ofChange fnVisibilityStringIsLowercaseWordWrong)

end Rows
end Go.Proofs.Qxb6613755aDoor
