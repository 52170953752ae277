/-
  Seat b6614257aD: the walk of net/url.escape at the mode of a path segment.
-/
import Derived.Test.Qxb6614257aDoorLeaves
import Derived.Laws.IdiomStrings
namespace Go.Proofs.Qxb6614257aDoor
open Go Go.RowKit

theorem tab_below {w w' : World} (h : TabAt w) (hb : Below w.heap.size w w') : TabAt w' := fun c => by
  obtain ⟨t, h1, h2⟩ := h c
  exact ⟨t, cell_later hb h1, h2⟩

/-- The bytes of a string, as cells of a new block: what the walk wants of '[]byte(s)'. -/
def BytesAt (s : ByteArray) (D : Nat) (w : World) : Prop := ∀ j (hj : j < s.size), w.cell? ⟨D, j, none⟩ = some (.int .u8 (s[j].toNat : Int))
theorem conv_any (s : ByteArray) (w : World) : ∃ cap o, (convert 9 30 (.string s)).run Tryd.prog w = .ok (.slice (some ⟨w.heap.size, 0, none⟩) s.size cap) (w.drew.alloc o) ∧ BytesAt s w.heap.size (w.alloc o).drew :=
  ⟨_, _, run_bytes_of_string w 9 30 5 s Tryd.underlying9 Tryd.underlying30 Tryd.underlying5, fun j hj => by
    have := World.cell?_alloc_mark w.drew (bytesRow s (grownCap w s.size 0 5)) 5 ((bytesRow s (grownCap w s.size 0 5)).size, (bytesRow s (grownCap w s.size 0 5)).size + 1) j
    rw [show w.drew.heap.size = w.heap.size from rfl] at this
    exact Eq.trans this (bytesRow_at s _ j hj)⟩

theorem take_snoc (s : ByteArray) (k : Nat) (h : k < s.size) : s.data.toList.take (k + 1) = s.data.toList.take k ++ [s[k]] := by
  rw [List.take_succ_eq_append_getElem (by simpa using h)]; rfl
theorem cnt_snoc (s : ByteArray) (k : Nat) (h : k < s.size) : cnt (s.data.toList.take (k + 1)) = cnt (s.data.toList.take k) + (if keep s[k] then 0 else 1) := by
  rw [take_snoc s k h, cnt_append]; simp [cnt]
theorem cnt_take_le (s : ByteArray) (k : Nat) : cnt (s.data.toList.take k) ≤ k := Nat.le_trans (cnt_le _) (List.length_take_le _ _)
theorem take_all (s : ByteArray) : s.data.toList.take s.size = s.data.toList := List.take_of_length_le (by rw [Array.length_toList]; exact Nat.le_refl _)

set_option maxHeartbeats 1000000 in
theorem esc_none (s : ByteArray) (w : World) (hs : s.size ≤ 65536) (ht : TabAt w) (h0 : cnt s.data.toList = 0) :
    Calls Tryd.prog 16 #[.string s, .int .u8 2] w fun e w' => e = .returned (.string s) ∧ Below w.heap.size w w' := by
  obtain ⟨cap, o, hconv, hcell⟩ := conv_any s w
  have HT : Hid (TabAt w) := ht
  have HB : Hid (BytesAt s w.heap.size (w.alloc o).drew) := hcell
  have H0 : Hid (cnt s.data.toList = 0) := h0
  clear ht hcell h0
  go_enter Tryd.func16, Tryd.ntmps16
  go_wp2
  have hbel : Below w.heap.size w (w.alloc o).drew := ((Below.refl _ _).alloc (Nat.le_refl _) _).drew
  generalize (w.alloc o).drew = W1 at HB hbel ⊢
  have ht1 := tab_below HT.out hbel
  clear hconv HT
  go_loop [5, 6, 19] (fun sp hx i => ∃ k : Nat, k ≤ s.size ∧ i = .int .i64 k ∧ sp = .int .i64 0 ∧ hx = .int .i64 (cnt (s.data.toList.take k))) (fun _ _ i => s.size - (intOf i).toNat)
  case atStart => exact ⟨0, Nat.zero_le _, rfl, rfl, rfl⟩
  case round =>
    obtain ⟨k, hk, rfl, rfl, rfl⟩ := hrel
    have hle := cnt_take_le s k
    by_cases hlt : k < s.size
    · have hc := HB.out k hlt
      have HS : Hid (cnt (s.data.toList.take (k + 1)) = cnt (s.data.toList.take k) + (if keep s[k] then 0 else 1)) := cnt_snoc s k hlt
      cases hkeep : keep s[k]
      · cases h32 : ((s[k].toNat : Int) == 32)
        all_goals
          go_wp2_with (go_at_call 17; refine (should_any _ _ ht1).mono ?_; rintro e w' ⟨rfl, rfl⟩)
          go_round
          case rel => exact ⟨k + 1, by omega, by go_num, rfl, by rw [HS.out, hkeep]; go_num⟩
          case measure => simp [intOf]; omega
      · go_wp2_with (go_at_call 17; refine (should_any _ _ ht1).mono ?_; rintro e w' ⟨rfl, rfl⟩)
        go_round
        case rel => exact ⟨k + 1, by omega, by go_num, rfl, by rw [HS.out, hkeep]; go_num⟩
        case measure => simp [intOf]; omega
    · obtain rfl : k = s.size := by omega
      have hz : cnt (s.data.toList.take s.size) = 0 := by rw [take_all]; exact H0.out
      go_wp2
      go_ret
      exact ⟨rfl, hbel⟩
end Go.Proofs.Qxb6614257aDoor
