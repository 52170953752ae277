/-
  The walks of seat b6613755aD: 'Visibility.String', 'zzHasPrefix', the two laws.
-/
import Derived.Test.Qxb6613755aDoorProg
import Derived.WalkKit
import Derived.WalkSpells
import Derived.Below
namespace Go.Proofs.Qxb6613755aDoor
open Go Go.RowKit

/-- The three names. -/
def nm0 : ByteArray := { data := #[112, 114, 105, 118, 97, 116, 101] }
def nm1 : ByteArray := { data := #[100, 101, 112, 97, 114, 116, 109, 101, 110, 116] }
def nm2 : ByteArray := { data := #[116, 101, 110, 97, 110, 116] }

/-- What the listed variable holds, cell by cell. -/
structure Tab (w : World) (b off cap : Nat) : Prop where
  hcap : 3 ≤ cap
  hdr : w.cell? ⟨0, 0, none⟩ = some (.slice (some ⟨b, off, none⟩) 3 cap)
  c0 : w.cell? ⟨b, off, none⟩ = some (.string nm0)
  c1 : w.cell? ⟨b, off + 1, none⟩ = some (.string nm1)
  c2 : w.cell? ⟨b, off + 2, none⟩ = some (.string nm2)

set_option maxHeartbeats 400000 in
theorem str0 (w : World) (b off cap : Nat) (h : Tab w b off cap) : Calls Tryd.prog 5 #[.int .i8 0] w fun e w' => e = .returned (.string nm0) ∧ w = w' := by
  have h1 := h.hdr
  have h2 := h.c0
  go_enter Tryd.func5, Tryd.ntmps5
  go_wp2
  go_ret
  exact ⟨rfl, rfl⟩
set_option maxHeartbeats 400000 in
theorem str1 (w : World) (b off cap : Nat) (h : Tab w b off cap) : Calls Tryd.prog 5 #[.int .i8 1] w fun e w' => e = .returned (.string nm1) ∧ w = w' := by
  have h1 := h.hdr
  have h2 := h.c1
  go_enter Tryd.func5, Tryd.ntmps5
  go_wp2
  go_ret
  exact ⟨rfl, rfl⟩
set_option maxHeartbeats 400000 in
theorem str2 (w : World) (b off cap : Nat) (h : Tab w b off cap) : Calls Tryd.prog 5 #[.int .i8 2] w fun e w' => e = .returned (.string nm2) ∧ w = w' := by
  have h1 := h.hdr
  have h2 := h.c2
  go_enter Tryd.func5, Tryd.ntmps5
  go_wp2
  go_ret
  exact ⟨rfl, rfl⟩

/-- What a call of 'String' comes to, kept shut while a walk goes. -/
def Gives (v : Int) (s : ByteArray) (w : World) : Prop := Calls Tryd.prog 5 #[.int .i8 v] w fun e w' => e = .returned (.string s) ∧ w = w'

/-- A non-empty word of lowercase letters. -/
def Word (s : ByteArray) : Prop := s.size < 100 ∧ 0 < s.size ∧ ∀ k (h : k < s.size), 97 ≤ (s[k].toNat : Int) ∧ (s[k].toNat : Int) ≤ 122

set_option maxHeartbeats 400000 in
theorem low_out (v : Int) (w : World) (hv : v < 0 ∨ 2 < v) : Calls Tryd.prog 4 #[.int .i8 v] w fun e w' => e = .returned (.bool true) ∧ w' = w := by
  rcases hv with hv | hv
  · go_enter Tryd.func4, Tryd.ntmps4
    go_wp2
    go_ret
    exact ⟨rfl, rfl⟩
  · have hv0 : ¬ v < 0 := by omega
    go_enter Tryd.func4, Tryd.ntmps4
    go_wp2
    go_ret
    exact ⟨rfl, rfl⟩

set_option maxHeartbeats 400000 in
theorem low_in (v : Int) (s : ByteArray) (w : World) (hv0 : ¬ v < 0) (hv2 : ¬ 2 < v) (hc : Gives v s w) (hw : Word s) :
    Calls Tryd.prog 4 #[.int .i8 v] w fun e w' => e = .returned (.bool true) ∧ w' = w := by
  obtain ⟨hs, h0, hl⟩ := hw
  have hz : ((s.size : Int) == 0) = false := beq_eq_false_iff_ne.2 (by omega)
  have HL : Hid (∀ k (h : k < s.size), 97 ≤ (s[k].toNat : Int) ∧ (s[k].toNat : Int) ≤ 122) := hl
  clear hl
  go_enter Tryd.func4, Tryd.ntmps4
  go_wp2_with (go_at_call 5; refine Calls.mono hc ?_; rintro e w' ⟨rfl, rfl⟩)
  go_loop [4] (fun i => ∃ k : Nat, k ≤ s.size ∧ i = .int .i64 k) (fun i => s.size - (intOf i).toNat)
  case atStart => exact ⟨0, Nat.zero_le _, rfl⟩
  case round =>
    obtain ⟨k, hk, rfl⟩ := hrel
    by_cases hlt : k < s.size
    · obtain ⟨ha, hb⟩ := HL.out k hlt
      go_wp2
      go_round
      case rel => exact ⟨k + 1, by omega, by go_num⟩
      case measure => simp [intOf]; omega
    · go_wp2
      go_ret
      exact ⟨rfl, rfl⟩
end Go.Proofs.Qxb6613755aDoor
