/-
  Seat b6614257aD: what the listed table gives the walks; the witness's heap.
-/
import Derived.Test.Qxb6614257aDoorRows
import Derived.Test.Qxb6614257aDoorLeaves
import Derived.ProofKit
import Derived.LaidMore
import Derived.OpenShut
import Derived.ShutString
import Derived.Stop.Joined
import Derived.Lib.LaidTab
namespace Go.Proofs.Qxb6614257aDoor
open Go.ChangeShapes Go.WideShapes Go.ChangeAt Go.RowKit

theorem own : ownKnob Tryd.prog.godebug = none := by kernel_rfl
theorem gTab : Tryd.prog.globalNamed (Rows.fnWorkerPathReadsBackItsNamesRow.named.headD "") = some 0 := by kernel_rfl
theorem tTab : (Tryd.prog.globals[0]?).map (·.type) = some 38 := by kernel_rfl
theorem cells34 : Tryd.prog.cellsOf 34 = 1 := by kernel_rfl
theorem cells38 : Tryd.prog.cellsOf 38 = 256 := by kernel_rfl

/-- The table's numbers, off the given datum. -/
def numOf : DataW Unit → Int
  | .lit (.int _ z) => z
  | _ => 0
def numsOf : DataW Unit → List Int
  | .agg l => l.map numOf
  | _ => []
def tabZ : List Int := numsOf Rows.laid_net_url_table
theorem tab_is : (Rows.laid_net_url_table : DataW Unit) = Lib.tabData .u8 tabZ := by kernel_rfl
theorem tabZ_len : tabZ.length = 256 := by kernel_rfl
/-- The table says which bytes a path segment keeps: every byte. -/
theorem tab_says : ((List.range 256).all fun n => (bits BinOp.and IntKind.u8 (tabZ.getD n 0) 2 == 0) == !keepN n) = true := by decide +kernel

/-- The door's own heap meets the condition. -/
theorem door_met (os : Os) (args : Array Value) : laidMetH Tryd.prog Rows.fnWorkerPathReadsBackItsNamesRow.laid ((World.doorLaid Tryd.prog 400 os).forCall (fun _ _ => 0) ⟨#[], args, []⟩).memory :=
  laidMetH_of_parts3 (fuel := 8) (laidMet_of_run' 8 (by kernel_rfl) (by kernel_rfl)) (by kernel_rfl) (by kernel_rfl)

/-- WHAT THE CONDITION GIVES THE WALKS: the table's cells. -/
theorem of_laid {W : World} (h : laidMetH Tryd.prog Rows.fnWorkerPathReadsBackItsNamesRow.laid W) : TabAt W := by
  rw [MakeChecks.laidMetH_plain _ _ _ (by kernel_rfl)] at h
  obtain ⟨ps, ⟨g0, t0, cs0, f0, p0, q0, hg0, ht0, hv0, hd0, _, _⟩, _, _⟩ := h
  obtain rfl := Option.some.inj (gTab.symm.trans hg0)
  obtain rfl := Option.some.inj (tTab.symm.trans ht0)
  rw [tab_is] at hd0
  have hc := Lib.cells_of_tab Tryd.underlying38 Tryd.underlying34 cells34 cells38 hd0
  intro c
  have hlt : c.toNat < 256 := c.toNat_lt
  refine ⟨tabZ.getD c.toNat 0, ?_, ?_⟩
  · have hj' : c.toNat < tabZ.length := by rw [tabZ_len]; exact hlt
    rw [World.var?_cell hg0 hv0 c.toNat, ← Array.getElem?_toList, hc]
    simp [List.getD, hj']
  · have := all_bytes tab_says c
    exact eq_of_beq this
end Go.Proofs.Qxb6614257aDoor
