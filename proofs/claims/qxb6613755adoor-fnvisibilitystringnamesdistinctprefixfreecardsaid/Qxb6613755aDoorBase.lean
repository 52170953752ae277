/-
  Seat b6613755aD: what the listed variable gives the walks; the witness's heap.
-/
import Derived.Test.Qxb6613755aDoorRows
import Derived.Test.Qxb6613755aDoorWalks
import Derived.ProofKit
import Derived.LaidMore
import Derived.OpenVars
import Derived.OpenShut
import Derived.Stop.Joined
namespace Go.Proofs.Qxb6613755aDoor
open Go.ChangeShapes Go.WideShapes Go.ChangeAt Go.RowKit

theorem own : ownKnob Tryd.prog.godebug = none := by kernel_rfl
theorem laidOut : laidOutB Tryd.prog = true := by kernel_rfl
theorem gName : Tryd.prog.globalNamed (Rows.fnVisibilityStringIsLowercaseWordRow.named.headD "") = some 0 := by kernel_rfl
theorem tName : (Tryd.prog.globals[0]?).map (·.type) = some 28 := by kernel_rfl
theorem cells9 : Tryd.prog.cellsOf 9 = 1 := by kernel_rfl

/-- The door's own heap meets the condition. -/
theorem door_met (os : Os) (args : Array Value) : laidMetH Tryd.prog Rows.fnVisibilityStringIsLowercaseWordRow.laid ((World.doorLaid Tryd.prog 400 os).forCall (fun _ _ => 0) ⟨#[], args, []⟩).memory :=
  laidMetH_of_parts3 (fuel := 8) (laidMet_of_run' 8 (by kernel_rfl) (by kernel_rfl)) (by kernel_rfl) (by kernel_rfl)

theorem str_of {W : World} {n : Nat} {v : Value} {bs : List UInt8} {q : List MemPlace} (h : DataW.trod (H := Unit) (fun _ => ()) Tryd.prog W 0 (fun _ => true) false n 9 [v] = some (.lit (.string bs), q)) : v = .string ⟨bs.toArray⟩ := by
  obtain ⟨s, e1, e2, _⟩ := DataW.trod_string Tryd.underlying9 h
  simp at e1 e2
  obtain ⟨e2, _⟩ := e2
  subst e1
  rw [e2]

/-- WHAT THE CONDITION GIVES THE WALKS. -/
theorem of_laid {W : World} (h : laidMetH Tryd.prog Rows.fnVisibilityStringIsLowercaseWordRow.laid W) : ∃ b off cap, Tab W b off cap := by
  rw [MakeChecks.laidMetH_plain _ _ _ (by kernel_rfl)] at h
  obtain ⟨ps, ⟨g0, t0, cs0, f0, p0, q0, hg0, ht0, hv0, hd0, _, _⟩, _, _⟩ := h
  obtain rfl := Option.some.inj (gName.symm.trans hg0)
  obtain rfl := Option.some.inj (tName.symm.trans ht0)
  obtain ⟨a, cap, hcs, hl, hel⟩ := open_row Tryd.underlying28 cells9 hd0
  obtain ⟨v0, n0, q0, hc0, hr0⟩ := hel 0 _ rfl
  obtain ⟨v1, n1, q1, hc1, hr1⟩ := hel 1 _ rfl
  obtain ⟨v2, n2, q2, hc2, hr2⟩ := hel 2 _ rfl
  obtain rfl := str_of hr0
  obtain rfl := str_of hr1
  obtain rfl := str_of hr2
  obtain ⟨b, off, spot⟩ := a
  have hspot : spot = none := by simpa [Addr.add] using World.cell?_spot hc0
  subst hspot
  refine ⟨b, off, cap, hl, ?_, by simpa [Addr.add, nm0] using hc0, by simpa [Addr.add, nm1] using hc1, by simpa [Addr.add, nm2] using hc2⟩
  have := World.var?_cell hg0 hv0 0
  rw [Array.eq_one_of_toList hcs] at this
  simpa using this

theorem word0 : Word nm0 := ⟨by decide, by decide, by decide⟩
theorem word1 : Word nm1 := ⟨by decide, by decide, by decide⟩
theorem word2 : Word nm2 := ⟨by decide, by decide, by decide⟩
end Go.Proofs.Qxb6613755aDoor
