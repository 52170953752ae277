/-
  Seat b6613972aD: the law 'FnChunkedShiftRoundTrip': the row proved, the card closed.
-/
import Derived.Test.Qxb6613972aDoorRows
import Derived.Test.Qxb6613972aDoorTie
import Derived.Test.Qxb6613972aDoorCards
import Derived.Test.Qxb6613972aDoorLaw
import Derived.ProofKit
import Derived.LaidMore
import Derived.OpenShut
import Derived.Stop.Joined
import Derived.Lib.LaidTab
import Derived.SevenTiedAt
namespace Go.Proofs.Qxb6613972aDoor
open Go.ChangeShapes Go.WideShapes Go.ChangeAt Go.RowKit

theorem own : ownKnob Tryd.prog.godebug = none := by kernel_rfl
theorem laidOut : laidOutB Tryd.prog = true := by kernel_rfl
theorem gTab : Tryd.prog.globalNamed (Rows.fnChunkedShiftRoundTripRow.named.getD 1 "") = some 1 := by kernel_rfl
theorem tTab : (Tryd.prog.globals[1]?).map (·.type) = some 38 := by kernel_rfl
theorem cells5 : Tryd.prog.cellsOf 5 = 1 := by kernel_rfl
theorem cells38 : Tryd.prog.cellsOf 38 = 64 := by kernel_rfl
theorem tab_is : (Rows.laid_math_bits_deBruijn64tab : DataW Unit) = Lib.tabData .u8 (Lib.deBruijn64tab.map fun (n : Nat) => (n : Int)) := by kernel_rfl

/-- The door's own heap meets the condition. -/
theorem door_met (os : Os) (args : Array Value) : laidMetH Tryd.prog Rows.fnChunkedShiftRoundTripRow.laid ((World.doorLaid Tryd.prog 400 os).forCall (fun _ _ => 0) ⟨#[], args, []⟩).memory :=
  laidMetH_of_parts3 (fuel := 8) (laidMet_of_run' 8 (by kernel_rfl) (by kernel_rfl)) (by kernel_rfl) (by kernel_rfl)

/-- WHAT THE CONDITION GIVES THE WALKS: the table's cells. -/
def TabAt (w : World) : Prop := ∀ j, j < 64 → w.cell? ⟨1, j, none⟩ = some (.int .u8 ((Lib.deBruijn64tab.getD j 0 : Nat) : Int))

theorem of_laid {W : World} (h : laidMetH Tryd.prog Rows.fnChunkedShiftRoundTripRow.laid W) : TabAt W := by
  rw [MakeChecks.laidMetH_plain _ _ _ (by kernel_rfl)] at h
  obtain ⟨ps, ⟨g0, t0, cs0, f0, p0, q0, hg0, ht0, hv0, hd0, ⟨g1, t1, cs1, f1, p1, q1, hg1, ht1, hv1, hd1, _, _⟩, _⟩, _, _⟩ := h
  obtain rfl := Option.some.inj (gTab.symm.trans hg1)
  obtain rfl := Option.some.inj (tTab.symm.trans ht1)
  rw [tab_is] at hd1
  have hc := Lib.cells_of_tab Tryd.underlying38 Tryd.underlying5 cells5 cells38 hd1
  intro j hj
  have := World.var?_cell hg1 hv1 j
  rw [this]
  have hl : Lib.deBruijn64tab.length = 64 := rfl
  have hj' : j < Lib.deBruijn64tab.length := by omega
  rw [← Array.getElem?_toList, hc]
  simp [List.getD, hj']

theorem tab_alloc {w : World} (h : TabAt w) (o : Obj) : TabAt (w.alloc o) := fun j hj => by
  have := h j hj
  rw [← this]
  exact World.cell?_alloc_lt _ _ _ (World.block_lt_of_cell? _ _ this)

theorem gives4 (x k : Nat) (hk : k < 64) (hx : x = 2 ^ k) (w : World) (h : TabAt w) : Gives4 x k w := by
  obtain ⟨idx, hi, ht, key⟩ := key_at x k hk hx
  have hp : 0 < x := by rw [hx]; exact Nat.two_pow_pos k
  have hlt : x < 18446744073709551616 := by
    rw [hx]; exact Nat.pow_lt_pow_right (a := 2) (by decide) hk
  have g9 : ∀ o, Gives9 x k (w.alloc o) := fun o => by
    have hc := tab_alloc h o idx hi
    rw [ht] at hc
    exact tz x k _ (tz64 x k idx _ (beq_eq_false_iff_ne.2 (by omega)) key hi hk hc) hlt
  exact zznew x k w (newc x k w hk g9)

theorem law_all (x : Nat) (hx : x ≤ 18446744073709551615) (w : World) (h : TabAt w) : Calls Tryd.prog 3 #[.int .u64 x] w fun e w' => e = .returned (.bool true) ∧ Below w.heap.size w w' := by
  by_cases h0 : x = 0
  · subst h0
    refine (law_zero w).mono ?_
    rintro e w' ⟨rfl, rfl⟩
    exact ⟨rfl, Below.refl _ _⟩
  have hz : ((x : Int) == 0) = false := beq_eq_false_iff_ne.2 (by omega)
  by_cases hb : 9223372036854775807 < x
  · cases ha : (bits BinOp.and IntKind.u64 (x : Int) ((x : Int) - 1) != 0)
    · refine (law_big x w hz (by omega) ha hb hx).mono ?_
      rintro e w' ⟨rfl, rfl⟩
      exact ⟨rfl, Below.refl _ _⟩
    · refine (law_and x w hz (by omega) ha hx).mono ?_
      rintro e w' ⟨rfl, rfl⟩
      exact ⟨rfl, Below.refl _ _⟩
  cases ha : (bits BinOp.and IntKind.u64 (x : Int) ((x : Int) - 1) != 0)
  · have e1 : ((x : Int) - 1) = ((x - 1 : Nat) : Int) := by omega
    have hand : x &&& (x - 1) = 0 := by
      have := bne_eq_false_iff_eq.1 ha
      rw [e1, bits_and_u64_nat x _ (by omega) (by omega)] at this
      exact Int.ofNat.inj this
    obtain ⟨k, hk, hx2⟩ := pow_of_and x (by omega) (by omega) hand
    have hsh : (IntKind.u64.wrap (2 ^ k) != (x : Int)) = false := by
      rw [bne_eq_false_iff_eq, IntKind.wrap_u64]
      have e2 : ((2 : Int) ^ k) = ((x : Nat) : Int) := by rw [hx2]; simp
      rw [e2]; omega
    exact law_in x k w hz hk (by omega) ha (by omega) hsh (gives4 x k (by omega) hx2 w h)
      (gives4 (2 * x) (k + 1) (by omega) (by rw [hx2, Nat.pow_succ, Nat.mul_comm]) _ (tab_alloc (tab_alloc h _) _))
  · refine (law_and x w hz (by omega) ha hx).mono ?_
    rintro e w' ⟨rfl, rfl⟩
    exact ⟨rfl, Below.refl _ _⟩

set_option maxRecDepth 100000 in
theorem lifted (os : Os) (started : os.Started) (H : Type) (enc : TypeId × Value → H) :
    ReturnsInHanded {} Tryd.checked os 3 .any (fun w args => (Rows.fnChunkedShiftRoundTripSpec.pre enc Tryd.prog Tryd.f3 [] false w args ∧ laidMetH Tryd.prog Rows.fnChunkedShiftRoundTripRow.laid w) ∧ sizedMet enc Tryd.prog Tryd.f3 (OpenSpec.ofChange Rows.fnChunkedShiftRoundTripSpec) false w args)
      (Rows.fnChunkedShiftRoundTripSpec.post enc Tryd.prog Tryd.f3 false true false false) := by
  refine returnsInHanded_of_change_and (C := Tryd.checked) (X := fun w _ => laidMetH Tryd.prog Rows.fnChunkedShiftRoundTripRow.laid w) (fun _ _ _ hh h => h.of_heap hh) own started (by kernel_rfl) Tryd.func3
    (ChangeSpec.witness_shaped (enc := enc) (C := Tryd.checked) (os := os) (X := fun w _ => laidMetH Tryd.prog Rows.fnChunkedShiftRoundTripRow.laid w) false (World.doorLaid Tryd.prog 400 os) #[.int .u64 0] 8 rfl (World.shaped_of_RefB (by kernel_rfl) (by kernel_rfl)) (by kernel_rfl) (by kernel_rfl) (by kernel_rfl) (door_met os _)) ?_
  intro W base args ds gs before hval0 hW _ _ hL _
  have hval : ∀ (j : Nat) t v, Tryd.f3.params[j]? = some t → args[j]? = some v → Value.okWide Tryd.prog W .any base t v := hval0
  have hW' := hW
  obtain ⟨p, q, hA0, hV, rfl, hfz, hnd⟩ := hW
  have hA : DataW.TrodAll enc Tryd.prog W 0 (fun _ => true) true Tryd.f3.params.toList args.toList ds p := hA0
  rw [Tryd.params3] at hA hval
  obtain ⟨v0, d0, rfl, rfl, h0⟩ := trodAll_one hA
  obtain ⟨rfl, rfl⟩ := trodVars_none hV
  obtain ⟨z, rfl, rfl, rfl, wz⟩ := open_int Tryd.underlying22 (hval 0 22 v0 rfl rfl) h0
  have hT := of_laid hL
  clear hA0 hval0
  have hz : 0 ≤ z ∧ z ≤ 18446744073709551615 := bounds_u64 wz
  obtain ⟨x, rfl⟩ := Int.eq_ofNat_of_zero_le hz.1
  refine (law_all x (by omega) W hT).mono fun e W' ⟨he, bel⟩ => ?_
  subst he
  exact ⟨_, rfl, _, _, _, [], [], [], hW', trodAll_mk1 (shut_bool Tryd.underlying4 _), trodAll_mk1 (shut_int Tryd.underlying22 wz), rfl, bel.frame _, fun h => by cases h⟩

theorem law_holds : Rows.FnChunkedShiftRoundTripSaid :=
  OpenClaim.holds_of_wide 3 Tryd.f3 rfl rfl rfl rfl rfl rfl rfl ⟨rfl, rfl, rfl, rfl, rfl⟩ rfl rfl rfl rfl rfl (by kernel_rfl) Tryd.func3 (by kernel_rfl)
    (of_decide_eq_true (by kernel_rfl)) (by unfold Func.isWrapper; first | (rw [if_pos (by decide +kernel)]; kernel_rfl) | (rw [if_neg (by decide +kernel)]; exact ⟨rfl, rfl⟩))
    (fun os started H enc _ => lifted os started H enc)

/-- THE CARD. -/
theorem chunkedShift_card : Rows.FnChunkedShiftRoundTripCardSaid :=
  Claim7.holds_tied_plain_at .later [] [.data, .data] true (true, "c89f6f297edf0d4efd8ac307340bc0bb9c01cfdcb2143e3ba09debea74630975") false
    law_holds (fun _ h => by cases h) (by kernel_rfl) (fun _ h => by cases h) fnChunkedShiftRoundTrip_row_tie rfl ⟨rfl, rfl⟩ (by kernel_rfl) rfl
    (fun f fn hf hfn => by
      obtain rfl : f = 3 := Option.some.inj ((show Tryd.prog.funcNamed Rows.fnChunkedShiftRoundTripRow.func = some 3 by kernel_rfl).symm.trans hf) |>.symm
      obtain rfl : fn = Tryd.f3 := (Option.some.inj (Tryd.func3.symm.trans hfn)).symm
      exact ⟨by kernel_rfl, fun j t ht => by
        rw [Tryd.params3] at ht
        have hm : t ∈ [22] := by simpa using Array.mem_of_getElem? ht
        have hall : ([22].all fun u => !Tryd.prog.wantsStandIn u) = true := by kernel_rfl
        exact (show Tryd.prog.wantsStandIn t = false by simpa using List.all_eq_true.1 hall t hm)⟩)
    (by kernel_rfl)
end Go.Proofs.Qxb6613972aDoor
