/-
  Seat b6613755aD: the law 'FnVisibilityStringIsLowercaseWord': the row proved, the card closed.
-/
import Derived.Test.Qxb6613755aDoorRows
import Derived.Test.Qxb6613755aDoorTie
import Derived.Test.Qxb6613755aDoorCards
import Derived.Test.Qxb6613755aDoorWalks
import Derived.Test.Qxb6613755aDoorBase
import Derived.SevenTiedAt
namespace Go.Proofs.Qxb6613755aDoor
open Go.ChangeShapes Go.WideShapes Go.ChangeAt Go.RowKit

theorem low_all (v : Int) (w : World) (b off cap : Nat) (h : Tab w b off cap) : Calls Tryd.prog 4 #[.int .i8 v] w fun e w' => e = .returned (.bool true) ∧ w' = w := by
  by_cases h0 : v = 0
  · subst h0; exact low_in 0 nm0 w (by decide) (by decide) (str0 w b off cap h) word0
  by_cases h1 : v = 1
  · subst h1; exact low_in 1 nm1 w (by decide) (by decide) (str1 w b off cap h) word1
  by_cases h2 : v = 2
  · subst h2; exact low_in 2 nm2 w (by decide) (by decide) (str2 w b off cap h) word2
  · exact low_out v w (by omega)

set_option maxRecDepth 100000 in
theorem low_lifted (os : Os) (started : os.Started) (H : Type) (enc : TypeId × Value → H) :
    ReturnsInHanded {} Tryd.checked os 4 .any (fun w args => (Rows.fnVisibilityStringIsLowercaseWordSpec.pre enc Tryd.prog Tryd.f4 [] false w args ∧ laidMetH Tryd.prog Rows.fnVisibilityStringIsLowercaseWordRow.laid w) ∧ sizedMet enc Tryd.prog Tryd.f4 (OpenSpec.ofChange Rows.fnVisibilityStringIsLowercaseWordSpec) false w args)
      (Rows.fnVisibilityStringIsLowercaseWordSpec.post enc Tryd.prog Tryd.f4 false true false false) := by
  refine returnsInHanded_of_change_and (C := Tryd.checked) (X := fun w _ => laidMetH Tryd.prog Rows.fnVisibilityStringIsLowercaseWordRow.laid w) (fun _ _ _ hh h => h.of_heap hh) own started (by kernel_rfl) Tryd.func4
    (ChangeSpec.witness_shaped (enc := enc) (C := Tryd.checked) (os := os) (X := fun w _ => laidMetH Tryd.prog Rows.fnVisibilityStringIsLowercaseWordRow.laid w) false (World.doorLaid Tryd.prog 400 os) #[.int .i8 0] 8 rfl (World.shaped_of_RefB (by kernel_rfl) (by kernel_rfl)) (by kernel_rfl) (by kernel_rfl) (by kernel_rfl) (door_met os _)) ?_
  intro W base args ds gs before hval0 hW _ _ hL _
  have hval : ∀ (j : Nat) t v, Tryd.f4.params[j]? = some t → args[j]? = some v → Value.okWide Tryd.prog W .any base t v := hval0
  have hW' := hW
  obtain ⟨p, q, hA0, hV, rfl, hfz, hnd⟩ := hW
  have hA : DataW.TrodAll enc Tryd.prog W 0 (fun _ => true) true Tryd.f4.params.toList args.toList ds p := hA0
  rw [Tryd.params4] at hA hval
  obtain ⟨v0, d0, rfl, rfl, h0⟩ := trodAll_one hA
  obtain ⟨g, t, cs, fuel, d, p', rfl, hg, ht, hvar, hd, rfl⟩ := trodVars_one hV
  obtain ⟨x, rfl, rfl, rfl, wx⟩ := open_int Tryd.underlying23 (hval 0 23 v0 rfl rfl) h0
  obtain ⟨b, off, cap, hT⟩ := of_laid hL
  clear hA0 hval0
  refine (low_all x W b off cap hT).mono fun e W' ⟨he, hw⟩ => ?_
  subst he; subst hw
  exact ⟨_, rfl, _, _, _, [], [], _, hW', trodAll_mk1 (shut_bool Tryd.underlying4 _), trodAll_mk1 (shut_int Tryd.underlying23 wx), Below.trodVars laidOut (Below.refl _ _) (by kernel_rfl) hV, (Below.refl _ _).frame _, fun h => by cases h⟩

theorem low_holds : Rows.FnVisibilityStringIsLowercaseWordSaid :=
  OpenClaim.holds_of_wide 4 Tryd.f4 rfl rfl rfl rfl rfl rfl rfl ⟨rfl, rfl, rfl, rfl, rfl⟩ rfl rfl rfl rfl rfl (by kernel_rfl) Tryd.func4 (by kernel_rfl)
    (of_decide_eq_true (by kernel_rfl)) (by unfold Func.isWrapper; first | (rw [if_pos (by decide +kernel)]; kernel_rfl) | (rw [if_neg (by decide +kernel)]; exact ⟨rfl, rfl⟩))
    (fun os started H enc _ => low_lifted os started H enc)

/-- THE CARD. -/
theorem lowercaseWord_card : Rows.FnVisibilityStringIsLowercaseWordCardSaid :=
  Claim7.holds_tied_plain_at .later [] [.widerDeep] true (true, "2503221f5a5a0ed5778488b5ca1cbc883b58215d7ae32bea18576ffbb1c1b87e") false
    low_holds (fun _ h => by cases h) (by kernel_rfl) (fun _ h => by cases h) fnVisibilityStringIsLowercaseWord_row_tie rfl ⟨rfl, rfl⟩ (by kernel_rfl) rfl
    (fun f fn hf hfn => by
      obtain rfl : f = 4 := Option.some.inj ((show Tryd.prog.funcNamed Rows.fnVisibilityStringIsLowercaseWordRow.func = some 4 by kernel_rfl).symm.trans hf) |>.symm
      obtain rfl : fn = Tryd.f4 := (Option.some.inj (Tryd.func4.symm.trans hfn)).symm
      exact ⟨by kernel_rfl, fun j t ht => by
        rw [Tryd.params4] at ht
        have hm : t ∈ [23] := by simpa using Array.mem_of_getElem? ht
        have hall : ([23].all fun u => !Tryd.prog.wantsStandIn u) = true := by kernel_rfl
        exact (show Tryd.prog.wantsStandIn t = false by simpa using List.all_eq_true.1 hall t hm)⟩)
    (by kernel_rfl)
end Go.Proofs.Qxb6613755aDoor
