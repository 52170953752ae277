/-
  Seat b6614257aD: the walk of the law 'FnWorkerPathReadsBackItsNames'.
-/
import Derived.Test.Qxb6614257aDoorBack
namespace Go.Proofs.Qxb6614257aDoor
open Go Go.RowKit

set_option maxHeartbeats 1000000 in
theorem back_in (c n k : ByteArray) (w : World) (h1 : c.size ≤ 65536) (h2 : n.size ≤ 65536) (h3 : k.size ≤ 65536) (ht : TabAt w) :
    Calls Tryd.prog 3 #[.string c, .string n, .string k] w fun e w' => e = .returned (.bool true) ∧ Below w.heap.size w w' := by
  have z1 := esc_size c h1
  have z2 := esc_size n h2
  rw [bs_size] at z1 z2
  have HW : Hid (wpath c n k = wpath c n { data := #[] } ++ k) := whole_is c n k
  have HB : Hid _ := base_head c n
  have HT : Hid _ := base_tail c n
  have HR1 : Hid _ := rest_head c n
  have HR2 : Hid _ := rest_tail c n
  have HT1 : Hid _ := tail_head n
  have HT2 : Hid _ := tail_tail n
  have HS : Hid _ := rest_slash c n
  have HNS : Hid _ := rest_noslash c n
  have bz : (wpath c n { data := #[] }).size = 14 + (restL c n).length := base_size c n
  have rz := rest_size c n
  have rz' : (bs (restL c n)).size = (restL c n).length := bs_size _
  have tz := tail_size n
  have bz1 : 14 ≤ (wpath c n { data := #[] }).size := by omega
  have bz2 : (wpath c n { data := #[] }).size ≤ 1000000 := by omega
  have rz1 : (esc c.data.toList).length < (bs (restL c n)).size := by omega
  have rz2 : (bs (restL c n)).size ≤ 1000000 := by omega
  have tz1 : 9 ≤ (bs (midL ++ esc n.data.toList)).size := by omega
  have tz2 : (bs (midL ++ esc n.data.toList)).size ≤ 1000000 := by omega
  clear bz rz rz' tz
  go_enter Tryd.func3, Tryd.ntmps3
  go_wp2_with fail
  refine (bytes3_yes c n k w h1 h2 h3).mono ?_
  rintro e w0 ⟨rfl, rfl⟩
  go_wp2_with fail
  refine (zzworkerPath_any c n k w h1 h2 h3 ht).mono ?_
  rintro e w1 ⟨rfl, b1⟩
  have ht1 := tab_below ht b1
  go_wp2_with fail
  refine (zzworkerPath_any c n { data := #[] } w1 h1 h2 (by decide) ht1).mono ?_
  rintro e w2 ⟨rfl, b2⟩
  rw [HW.out]
  clear HW
  go_wp2_with fail
  refine (hasPrefix_yes _ _ w2 (by have : ({ data := #[47, 118, 49, 47, 99, 111, 110, 115, 117, 109, 101, 114, 115, 47] } : ByteArray).size = 14 := rfl; omega) HB.out).mono ?_
  rintro e w3 ⟨rfl, rfl⟩
  go_wp2_with fail
  rw [HT.out]
  refine (indexSlash (bs (restL c n)) (esc c.data.toList).length w2 (by omega) rz1 (HS.out rz1) (fun i h hi => HNS.out i h hi)).mono ?_
  rintro e w3 ⟨rfl, rfl⟩
  clear HS HNS HT HB
  go_wp2_with fail
  rw [HR2.out]
  refine (hasPrefix_yes _ _ w2 (by have : ({ data := #[47, 119, 111, 114, 107, 101, 114, 115, 47] } : ByteArray).size = 9 := rfl; omega) HT1.out).mono ?_
  rintro e w3 ⟨rfl, rfl⟩
  go_wp2_with fail
  rw [HR1.out, HT2.out]
  refine (decode_any c w2 h1).mono ?_
  rintro e w3 ⟨rfl, b3⟩
  go_wp2_with fail
  refine (decode_any n w3 h2).mono ?_
  rintro e w4 ⟨rfl, b4⟩
  go_wp2_with fail
  go_ret
  exact ⟨rfl, b1.trans ((b2.mono b1.size).trans ((b3.mono (Nat.le_trans b1.size b2.size)).trans (b4.mono (Nat.le_trans b1.size (Nat.le_trans b2.size b3.size)))))⟩

set_option maxHeartbeats 1000000 in
/-- Too long an argument: the law answers by its first tests. -/
theorem back_out (c n k : ByteArray) (w : World) (h1 : c.size ≤ maxLen) (h2 : n.size ≤ maxLen) (h3 : k.size ≤ maxLen) (hout : 65536 < c.size ∨ 65536 < n.size ∨ 65536 < k.size) :
    Calls Tryd.prog 3 #[.string c, .string n, .string k] w fun e w' => e = .returned (.bool true) ∧ Below w.heap.size w w' := by
  have hcall := bytes3_some c n k w h1 h2 h3
  have HO : Hid (65536 < c.size ∨ 65536 < n.size ∨ 65536 < k.size) := hout
  have HC : Hid _ := hcall
  clear hcall hout
  go_enter Tryd.func3, Tryd.ntmps3
  go_wp2_with fail
  refine Calls.mono HC.out ?_
  rintro e w0 ⟨b, rfl, rfl⟩
  clear HC
  cases b
  · go_wp2_with fail
    go_ret
    exact ⟨rfl, Below.refl _ _⟩
  · by_cases g1 : 65536 < c.size
    · go_wp2_with fail
      go_ret
      exact ⟨rfl, Below.refl _ _⟩
    by_cases g2 : 65536 < n.size
    · go_wp2_with fail
      go_ret
      exact ⟨rfl, Below.refl _ _⟩
    have g3 : 65536 < k.size := by have := HO.out; omega
    go_wp2_with fail
    go_ret
    exact ⟨rfl, Below.refl _ _⟩

theorem back_all (c n k : ByteArray) (w : World) (h1 : c.size ≤ maxLen) (h2 : n.size ≤ maxLen) (h3 : k.size ≤ maxLen) (ht : TabAt w) :
    Calls Tryd.prog 3 #[.string c, .string n, .string k] w fun e w' => e = .returned (.bool true) ∧ Below w.heap.size w w' := by
  by_cases h : c.size ≤ 65536 ∧ n.size ≤ 65536 ∧ k.size ≤ 65536
  · exact back_in c n k w h.1 h.2.1 h.2.2 ht
  · exact back_out c n k w h1 h2 h3 (by omega)
end Go.Proofs.Qxb6614257aDoor
