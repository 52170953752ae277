/-
  Seat b6614257aD: the walks of shouldEscape, zzHexVal, zzHasPrefix, zzIndexByteStr, the bounds laid by program.
-/
import Derived.Test.Qxb6614257aDoorProg
import Derived.Test.Qxb6614257aDoorPlain
import Derived.WalkKit
import Derived.WalkSpells
import Derived.WalkLawsBesides
import Derived.Below
namespace Go.Proofs.Qxb6614257aDoor
open Go Go.RowKit

/-- The table's cell at a byte, as the walk of shouldEscape wants it. -/
def TabAt (w : World) : Prop := ∀ c : UInt8, ∃ t : Int, w.cell? ⟨0, c.toNat, none⟩ = some (.int .u8 t) ∧ (bits BinOp.and IntKind.u8 t 2 == 0) = !keep c

set_option maxHeartbeats 400000 in
theorem should_any (c : UInt8) (w : World) (h : TabAt w) : Calls Tryd.prog 17 #[.int .u8 (c.toNat : Int), .int .u8 2] w fun e w' => e = .returned (.bool (!keep c)) ∧ w = w' := by
  obtain ⟨t, hc, ht⟩ := h c
  have hlt : c.toNat < 256 := c.toNat_lt
  go_enter Tryd.func17, Tryd.ntmps17
  go_wp2
  go_ret
  exact ⟨rfl, rfl⟩

theorem ret_int {k : IntKind} {a b : Int} (h : a = b) : Ending.returned (.int k a) = .returned (.int k b) := by rw [h]

theorem ret_bool {a b : Bool} (h : a = b) : Ending.returned (.bool a) = .returned (.bool b) := by rw [h]

set_option maxHeartbeats 400000 in
/-- zzHexVal at a digit that escaping writes. -/
theorem hexval (n : Nat) (w : World) (h : n < 16) : Calls Tryd.prog 13 #[.int .u8 (hexN n : Int)] w fun e w' => e = .returned (.int .i64 (n : Int)) ∧ w = w' := by
  rcases hexN_range n h with ⟨h1, h2, h3, h4⟩ | ⟨h1, h2, h3, h4⟩
  · generalize hexN n = m at *
    obtain rfl : m = 48 + n := h3
    go_enter Tryd.func13, Tryd.ntmps13
    go_wp2
    go_ret
    exact ⟨ret_int (by omega), rfl⟩
  · generalize hexN n = m at *
    obtain rfl : m = 55 + n := h3
    go_enter Tryd.func13, Tryd.ntmps13
    go_wp2
    go_ret
    exact ⟨ret_int (by omega), rfl⟩

set_option maxHeartbeats 400000 in
/-- zzHasPrefix where it is one. -/
theorem hasPrefix_yes (s p : ByteArray) (w : World) (hp : p.size ≤ s.size) (h : s.extract 0 p.size = p) :
    Calls Tryd.prog 7 #[.string s, .string p] w fun e w' => e = .returned (.bool true) ∧ w = w' := by
  have H : Hid (s.extract 0 p.size = p) := h
  clear h
  go_enter Tryd.func7, Tryd.ntmps7
  go_wp2
  go_ret
  exact ⟨ret_bool (by rw [H.out]; simp), rfl⟩

set_option maxHeartbeats 400000 in
/-- zzIndexByteStr: the first slash. -/
theorem indexSlash (s : ByteArray) (n : Nat) (w : World) (hs : s.size < 1000000000) (hn : n < s.size) (hat : s[n].toNat = 47) (hno : ∀ i (h : i < s.size), i < n → s[i].toNat ≠ 47) :
    Calls Tryd.prog 8 #[.string s, .int .u8 47] w fun e w' => e = .returned (.int .i64 (n : Int)) ∧ w = w' := by
  have HA : Hid (s[n].toNat = 47) := hat
  have HN : Hid (∀ i (h : i < s.size), i < n → s[i].toNat ≠ 47) := hno
  clear hat hno
  go_enter Tryd.func8, Tryd.ntmps8
  go_wp2
  go_loop [5] (fun i => ∃ k : Nat, k ≤ n ∧ i = .int .i64 k) (fun i => n - (intOf i).toNat)
  case atStart => exact ⟨0, Nat.zero_le _, rfl⟩
  case round =>
    obtain ⟨k, hk, rfl⟩ := hrel
    have hks : k < s.size := by omega
    by_cases hlt : k < n
    · have hne : ((s[k].toNat : Int) == 47) = false := beq_eq_false_iff_ne.2 (by have := HN.out k hks hlt; omega)
      go_wp2
      go_round
      case rel => exact ⟨k + 1, by omega, by go_num⟩
      case measure => simp [intOf]; omega
    · obtain rfl : k = n := by omega
      have heq : ((s[k].toNat : Int) == 47) = true := beq_iff_eq.2 (by have := HA.out; omega)
      go_wp2
      go_ret
      exact ⟨rfl, rfl⟩
end Go.Proofs.Qxb6614257aDoor
