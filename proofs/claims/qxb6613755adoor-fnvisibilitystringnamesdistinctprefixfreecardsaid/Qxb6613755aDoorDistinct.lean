/-
  Seat b6613755aD: the law 'FnVisibilityStringNamesDistinctPrefixFree': the row proved, the card closed.
-/
import Derived.Test.Qxb6613755aDoorRows
import Derived.Test.Qxb6613755aDoorTie
import Derived.Test.Qxb6613755aDoorCards
import Derived.Test.Qxb6613755aDoorWalks2
import Derived.Test.Qxb6613755aDoorBase
import Derived.SevenTiedAt
namespace Go.Proofs.Qxb6613755aDoor
open Go.ChangeShapes Go.WideShapes Go.ChangeAt Go.RowKit

theorem dis_all (v u : Int) (w : World) (b off cap : Nat) (h : Tab w b off cap) : Calls Tryd.prog 3 #[.int .i8 v, .int .i8 u] w fun e w' => e = .returned (.bool true) ∧ ∃ n, w' = w.drewN n := by
  have s0 : Gives 0 nm0 w := str0 w b off cap h
  have s1 : Gives 1 nm1 w := str1 w b off cap h
  have s2 : Gives 2 nm2 w := str2 w b off cap h
  by_cases ho : v < 0 ∨ 2 < v ∨ u < 0 ∨ 2 < u
  · exact dis_out v u w ho
  have hv : v = 0 ∨ v = 1 ∨ v = 2 := by omega
  have hu : u = 0 ∨ u = 1 ∨ u = 2 := by omega
  clear ho
  rcases hv with rfl | rfl | rfl <;> rcases hu with rfl | rfl | rfl
  · exact dis_eq 0 nm0 w (by decide) (by decide) s0 (by decide) (by decide)
  · exact dis_ne 0 1 nm0 nm1 w (by decide) (by decide) (by decide) (by decide) (by decide) s0 s1 (by decide) (by decide) (by decide) (by decide) (by decide) (by decide)
  · exact dis_ne 0 2 nm0 nm2 w (by decide) (by decide) (by decide) (by decide) (by decide) s0 s2 (by decide) (by decide) (by decide) (by decide) (by decide) (by decide)
  · exact dis_ne 1 0 nm1 nm0 w (by decide) (by decide) (by decide) (by decide) (by decide) s1 s0 (by decide) (by decide) (by decide) (by decide) (by decide) (by decide)
  · exact dis_eq 1 nm1 w (by decide) (by decide) s1 (by decide) (by decide)
  · exact dis_ne 1 2 nm1 nm2 w (by decide) (by decide) (by decide) (by decide) (by decide) s1 s2 (by decide) (by decide) (by decide) (by decide) (by decide) (by decide)
  · exact dis_ne 2 0 nm2 nm0 w (by decide) (by decide) (by decide) (by decide) (by decide) s2 s0 (by decide) (by decide) (by decide) (by decide) (by decide) (by decide)
  · exact dis_ne 2 1 nm2 nm1 w (by decide) (by decide) (by decide) (by decide) (by decide) s2 s1 (by decide) (by decide) (by decide) (by decide) (by decide) (by decide)
  · exact dis_eq 2 nm2 w (by decide) (by decide) s2 (by decide) (by decide)

theorem below_draws (w : World) (n : Nat) : Below w.heap.size w (w.drewN n) := (Below.refl _ _).trans ⟨rfl, rfl, rfl, Nat.le_refl _, fun _ _ => rfl⟩

set_option maxRecDepth 100000 in
theorem dis_lifted (os : Os) (started : os.Started) (H : Type) (enc : TypeId × Value → H) :
    ReturnsInHanded {} Tryd.checked os 3 .any (fun w args => (Rows.fnVisibilityStringNamesDistinctPrefixFreeSpec.pre enc Tryd.prog Tryd.f3 [] false w args ∧ laidMetH Tryd.prog Rows.fnVisibilityStringNamesDistinctPrefixFreeRow.laid w) ∧ sizedMet enc Tryd.prog Tryd.f3 (OpenSpec.ofChange Rows.fnVisibilityStringNamesDistinctPrefixFreeSpec) false w args)
      (Rows.fnVisibilityStringNamesDistinctPrefixFreeSpec.post enc Tryd.prog Tryd.f3 false true false false) := by
  refine returnsInHanded_of_change_and (C := Tryd.checked) (X := fun w _ => laidMetH Tryd.prog Rows.fnVisibilityStringNamesDistinctPrefixFreeRow.laid w) (fun _ _ _ hh h => h.of_heap hh) own started (by kernel_rfl) Tryd.func3
    (ChangeSpec.witness_shaped (enc := enc) (C := Tryd.checked) (os := os) (X := fun w _ => laidMetH Tryd.prog Rows.fnVisibilityStringNamesDistinctPrefixFreeRow.laid w) false (World.doorLaid Tryd.prog 400 os) #[.int .i8 0, .int .i8 0] 8 rfl (World.shaped_of_RefB (by kernel_rfl) (by kernel_rfl)) (by kernel_rfl) (by kernel_rfl) (by kernel_rfl) (door_met os _)) ?_
  intro W base args ds gs before hval0 hW _ _ hL _
  have hval : ∀ (j : Nat) t v, Tryd.f3.params[j]? = some t → args[j]? = some v → Value.okWide Tryd.prog W .any base t v := hval0
  have hW' := hW
  obtain ⟨p, q, hA0, hV, rfl, hfz, hnd⟩ := hW
  have hA : DataW.TrodAll enc Tryd.prog W 0 (fun _ => true) true Tryd.f3.params.toList args.toList ds p := hA0
  rw [Tryd.params3] at hA hval
  obtain ⟨v0, v1, d0, d1, p0, p1, rfl, rfl, rfl, h0, h1⟩ := trodAll_two hA
  obtain ⟨g, t, cs, fuel, d, p', rfl, hg, ht, hvar, hd, rfl⟩ := trodVars_one hV
  obtain ⟨x, rfl, rfl, rfl, wx⟩ := open_int Tryd.underlying23 (hval 0 23 v0 rfl rfl) h0
  obtain ⟨y, rfl, rfl, rfl, wy⟩ := open_int Tryd.underlying23 (hval 1 23 v1 rfl rfl) h1
  obtain ⟨b, off, cap, hT⟩ := of_laid hL
  clear hA0 hval0
  refine (dis_all x y W b off cap hT).mono fun e W' ⟨he, n, hw⟩ => ?_
  subst he; subst hw
  exact ⟨_, rfl, _, _, _, [], [], _, hW', trodAll_mk1 (shut_bool Tryd.underlying4 _), trodAll_mk2 (shut_int Tryd.underlying23 wx) (shut_int Tryd.underlying23 wy), Below.trodVars laidOut (below_draws _ _) (by kernel_rfl) hV, (below_draws _ _).frame _, fun h => by cases h⟩

theorem dis_holds : Rows.FnVisibilityStringNamesDistinctPrefixFreeSaid :=
  OpenClaim.holds_of_wide 3 Tryd.f3 rfl rfl rfl rfl rfl rfl rfl ⟨rfl, rfl, rfl, rfl, rfl⟩ rfl rfl rfl rfl rfl (by kernel_rfl) Tryd.func3 (by kernel_rfl)
    (of_decide_eq_true (by kernel_rfl)) (by unfold Func.isWrapper; first | (rw [if_pos (by decide +kernel)]; kernel_rfl) | (rw [if_neg (by decide +kernel)]; exact ⟨rfl, rfl⟩))
    (fun os started H enc _ => dis_lifted os started H enc)

/-- THE CARD. -/
theorem namesDistinct_card : Rows.FnVisibilityStringNamesDistinctPrefixFreeCardSaid :=
  Claim7.holds_tied_plain_at .later [] [.widerDeep] true (true, "2503221f5a5a0ed5778488b5ca1cbc883b58215d7ae32bea18576ffbb1c1b87e") false
    dis_holds (fun _ h => by cases h) (by kernel_rfl) (fun _ h => by cases h) fnVisibilityStringNamesDistinctPrefixFree_row_tie rfl ⟨rfl, rfl⟩ (by kernel_rfl) rfl
    (fun f fn hf hfn => by
      obtain rfl : f = 3 := Option.some.inj ((show Tryd.prog.funcNamed Rows.fnVisibilityStringNamesDistinctPrefixFreeRow.func = some 3 by kernel_rfl).symm.trans hf) |>.symm
      obtain rfl : fn = Tryd.f3 := (Option.some.inj (Tryd.func3.symm.trans hfn)).symm
      exact ⟨by kernel_rfl, fun j t ht => by
        rw [Tryd.params3] at ht
        have hm : t ∈ [23, 23] := by simpa using Array.mem_of_getElem? ht
        have hall : ([23, 23].all fun u => !Tryd.prog.wantsStandIn u) = true := by kernel_rfl
        exact (show Tryd.prog.wantsStandIn t = false by simpa using List.all_eq_true.1 hall t hm)⟩)
    (by kernel_rfl)
end Go.Proofs.Qxb6613755aDoor
