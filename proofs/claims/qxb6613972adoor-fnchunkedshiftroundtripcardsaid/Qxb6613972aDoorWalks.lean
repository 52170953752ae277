/-
  Seat b6613972aD: the walks: math/bits.TrailingZeros64, TrailingZeros, newChunked, ZZnewChunkedU32.
-/
import Derived.Test.Qxb6613972aDoorProg
import Derived.WalkKit
import Derived.WalkSpells
import Derived.Below
import Derived.Laws.Bits64b
import Derived.Lib.TrailingZeros
namespace Go.Proofs.Qxb6613972aDoor
open Go Go.RowKit

set_option maxHeartbeats 1000000 in
theorem tz64 (x k idx : Nat) (w : World) (hx0 : ((x : Int) == 0) = false)
    (key : IntKind.u64.wrap (bits BinOp.and IntKind.u64 (x : Int) (IntKind.u64.wrap (-(x : Int))) * 285870213051353865) / 288230376151711744 = (idx : Int))
    (hi : idx < 64) (hk : k < 64) (hcell : w.cell? ⟨1, idx, none⟩ = some (.int .u8 k)) :
    Calls Tryd.prog 11 #[.int .u64 x] w fun e w' => e = .returned (.int .i64 k) ∧ w = w' := by
  go_enter Tryd.func11, Tryd.ntmps11
  go_wp2_with (simp only [key])
  go_ret
  exact ⟨rfl, rfl⟩

/-- What TrailingZeros64 comes to at one argument, kept shut while a walk goes. -/
def Gives (x k : Nat) (w : World) : Prop := Calls Tryd.prog 11 #[.int .u64 x] w fun e w' => e = .returned (.int .i64 k) ∧ w = w'

set_option maxHeartbeats 1000000 in
theorem tz (x k : Nat) (w : World) (hc : Gives x k w) (hx : x < 18446744073709551616) : Calls Tryd.prog 9 #[.int .u64 x] w fun e w' => e = .returned (.int .i64 k) ∧ w = w' := by
  have hw : IntKind.u64.wrap (x : Int) = (x : Int) := by rw [IntKind.wrap_u64]; omega
  clear hx
  go_enter Tryd.func9, Tryd.ntmps9
  go_wp2_with (go_at_call 11; refine Calls.mono hc ?_; rintro e w' ⟨rfl, rfl⟩)
  go_ret
  exact ⟨rfl, rfl⟩

/-- What TrailingZeros comes to at one argument, kept shut while a walk goes. -/
def Gives9 (x k : Nat) (w : World) : Prop := Calls Tryd.prog 9 #[.int .u64 x] w fun e w' => e = .returned (.int .i64 k) ∧ w = w'

/-- The struct that newChunked makes. -/
def Made (k : Nat) : Array Value := #[.int .u8 k, .slice none 0 0, .int .i64 0]

set_option maxHeartbeats 1000000 in
theorem newc (x k : Nat) (w : World) (hk : k < 64) (hc : ∀ o, Gives9 x k (w.alloc o)) : Calls Tryd.prog 8 #[.int .u64 x] w fun e w' => e = .returned (.agg (Made k)) ∧ w' = w.alloc (.cells (Made k) 30) := by
  go_enter Tryd.func8, Tryd.ntmps8
  go_wp2_with fail
  refine Calls.mono (hc _) ?_
  rintro e w' ⟨rfl, rfl⟩
  go_wp2_with fail
  exact bodyPost_ret (v := .agg (Made k)) (by simp [results, Tryd.results8, go_sem, Made]) rfl ⟨rfl, rfl⟩

/-- The same of newChunked. -/
def Gives8 (x k : Nat) (w : World) : Prop := Calls Tryd.prog 8 #[.int .u64 x] w fun e w' => e = .returned (.agg (Made k)) ∧ w' = w.alloc (.cells (Made k) 30)

set_option maxHeartbeats 1000000 in
theorem zznew (x k : Nat) (w : World) (hc : Gives8 x k w) : Calls Tryd.prog 4 #[.int .u64 x] w fun e w' => e = .returned (.pointer (some ⟨w.heap.size + 1, 0, none⟩)) ∧ w' = (w.alloc (.cells (Made k) 30)).alloc (.cells (Made k) 30) := by
  go_enter Tryd.func4, Tryd.ntmps4
  go_wp2_with fail
  refine Calls.mono hc ?_
  rintro e w' ⟨rfl, rfl⟩
  unfold Made
  go_wp2_with fail
  go_ret
  exact ⟨rfl, rfl⟩

/-- The same of ZZnewChunkedU32. -/
def Gives4 (x k : Nat) (w : World) : Prop := Calls Tryd.prog 4 #[.int .u64 x] w fun e w' => e = .returned (.pointer (some ⟨w.heap.size + 1, 0, none⟩)) ∧ w' = (w.alloc (.cells (Made k) 30)).alloc (.cells (Made k) 30)

end Go.Proofs.Qxb6613972aDoor
