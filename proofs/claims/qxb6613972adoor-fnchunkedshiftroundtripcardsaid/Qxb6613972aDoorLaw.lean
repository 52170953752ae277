/-
  Seat b6613972aD: the walk of the law itself.
-/
import Derived.Test.Qxb6613972aDoorWalks
namespace Go.Proofs.Qxb6613972aDoor
open Go Go.RowKit

set_option maxHeartbeats 1000000 in
theorem law_zero (w : World) : Calls Tryd.prog 3 #[.int .u64 0] w fun e w' => e = .returned (.bool true) ∧ w' = w := by
  go_enter Tryd.func3, Tryd.ntmps3
  go_wp2
  go_ret
  exact ⟨rfl, rfl⟩

set_option maxHeartbeats 1000000 in
theorem law_and (x : Nat) (w : World) (hx0 : ((x : Int) == 0) = false) (hx : 1 ≤ x) (hand : (bits BinOp.and IntKind.u64 (x : Int) ((x : Int) - 1) != 0) = true) (hx2 : x ≤ 18446744073709551615) :
    Calls Tryd.prog 3 #[.int .u64 x] w fun e w' => e = .returned (.bool true) ∧ w' = w := by
  go_enter Tryd.func3, Tryd.ntmps3
  go_wp2
  go_ret
  exact ⟨rfl, rfl⟩

set_option maxHeartbeats 1000000 in
theorem law_big (x : Nat) (w : World) (hx0 : ((x : Int) == 0) = false) (_hx : 1 ≤ x) (hand : (bits BinOp.and IntKind.u64 (x : Int) ((x : Int) - 1) != 0) = false) (hb : 9223372036854775807 < x) (hx2 : x ≤ 18446744073709551615) :
    Calls Tryd.prog 3 #[.int .u64 x] w fun e w' => e = .returned (.bool true) ∧ w' = w := by
  go_enter Tryd.func3, Tryd.ntmps3
  go_wp2_with fail
  go_ret
  exact ⟨rfl, rfl⟩

set_option maxHeartbeats 1000000 in
theorem law_in (x k : Nat) (w : World) (hx0 : ((x : Int) == 0) = false) (hk : k < 63) (hx : 1 ≤ x) (hand : (bits BinOp.and IntKind.u64 (x : Int) ((x : Int) - 1) != 0) = false) (hx2 : x ≤ 9223372036854775807) (hsh : (IntKind.u64.wrap (2 ^ k) != (x : Int)) = false)
    (g1 : Gives4 x k w) (g2 : Gives4 (2 * x) (k + 1) ((w.alloc (.cells (Made k) 30)).alloc (.cells (Made k) 30))) :
    Calls Tryd.prog 3 #[.int .u64 x] w fun e w' => e = .returned (.bool true) ∧ Below w.heap.size w w' := by
  have hcast : (2 * (x : Int)) = ((2 * x : Nat) : Int) := by omega
  have HC : Hid ((2 * (x : Int)) = ((2 * x : Nat) : Int)) := hcast
  clear hcast
  go_enter Tryd.func3, Tryd.ntmps3
  go_wp2_with fail
  refine Calls.mono g1 ?_
  rintro e w' ⟨rfl, rfl⟩
  go_wp2_with fail
  rw [HC.out]
  refine Calls.mono g2 ?_
  rintro e w' ⟨rfl, rfl⟩
  unfold Made
  go_wp2
  go_ret
  exact ⟨rfl, ((((Below.refl _ _).alloc (Nat.le_refl _) _).alloc (by simp) _).alloc (by simp; omega) _).alloc (by simp; omega) _⟩

/-! ### The plain law: no Go in sight. -/

/-- A number that shares no bit with its predecessor is a power of two. -/
theorem pow_of_and (x : Nat) (h0 : 0 < x) (hx : x < 2 ^ 63) (h : x &&& (x - 1) = 0) : ∃ k, k < 63 ∧ x = 2 ^ k := by
  obtain ⟨m, hm, hk⟩ := Lib.ctzFrom_spec 63 x h0 hx
  generalize Lib.ctzFrom 63 x = k at hm hk
  refine ⟨k, hk, ?_⟩
  have hp : 0 < 2 ^ k := Nat.two_pow_pos k
  have e : 2 ^ k * (2 * m + 1) = 2 ^ (k + 1) * m + 2 ^ k := by rw [Nat.pow_succ, Nat.mul_add, Nat.mul_one, Nat.mul_assoc]
  have e1 : x >>> (k + 1) = m := by
    rw [Nat.shiftRight_eq_div_pow, hm, e, Nat.mul_add_div (Nat.two_pow_pos _), Nat.div_eq_of_lt (by rw [Nat.pow_succ]; omega), Nat.add_zero]
  have e2 : (x - 1) >>> (k + 1) = m := by
    rw [Nat.shiftRight_eq_div_pow, hm, e, Nat.add_sub_assoc hp, Nat.mul_add_div (Nat.two_pow_pos _), Nat.div_eq_of_lt (by rw [Nat.pow_succ]; omega), Nat.add_zero]
  have e3 : (x &&& (x - 1)) >>> (k + 1) = m := by rw [Nat.shiftRight_and_distrib, e1, e2, Nat.and_self]
  rw [h, Nat.zero_shiftRight] at e3
  rw [hm, ← e3]; simp

/-- The look-up's index at a power of two, as the walk spells it. -/
theorem key_at (x k : Nat) (hk : k < 64) (hx : x = 2 ^ k) :
    ∃ idx, idx < 64 ∧ Lib.deBruijn64tab.getD idx 0 = k ∧ IntKind.u64.wrap (bits BinOp.and IntKind.u64 (x : Int) (IntKind.u64.wrap (-(x : Int))) * 285870213051353865) / 288230376151711744 = (idx : Int) := by
  obtain ⟨hi, ht⟩ := Lib.deBruijn64_at k hk
  refine ⟨_, hi, ht, ?_⟩
  have hp : 0 < x := by rw [hx]; exact Nat.two_pow_pos k
  have hlt : x < 18446744073709551616 := by
    rw [hx]; exact Nat.pow_lt_pow_right (a := 2) (by decide) hk
  have hlow : x &&& (18446744073709551616 - x) = 2 ^ k := by
    have := Lib.and_neg 64 k 0 (by simpa using (hx ▸ hlt : 2 ^ k < 2 ^ 64))
    simp only [Nat.mul_zero, Nat.zero_add, Nat.mul_one] at this
    rw [hx]; exact this
  have e1 : IntKind.u64.wrap (-(x : Int)) = ((18446744073709551616 - x : Nat) : Int) := by rw [IntKind.wrap_u64]; omega
  rw [e1, bits_and_u64_nat x _ hlt (by omega), hlow, IntKind.wrap_u64]
  generalize 2 ^ k = y
  omega
end Go.Proofs.Qxb6613972aDoor
