/-
  The walks of seat b6613755aD: 'zzHasPrefix' where the first bytes differ; the law on distinct names.
-/
import Derived.Test.Qxb6613755aDoorWalks
import Derived.Deep.QuietTactic
import Derived.BigQuiet
namespace Go.Proofs.Qxb6613755aDoor
open Go Go.RowKit

set_option maxHeartbeats 400000 in
theorem pre_no (s p : ByteArray) (w : World) (hs : s.size < 100) (hp : p.size < 100) (hs0 : 0 < s.size) (hp0 : 0 < p.size) (hne : ((s[0].toNat : Int) != (p[0].toNat : Int)) = true) :
    Calls Tryd.prog 6 #[.string s, .string p] w fun e w' => e = .returned (.bool false) ∧ ∃ n, w' = w.drewN n := by
  by_cases hl : s.size < p.size
  · go_enter Tryd.func6, Tryd.ntmps6
    go_wp2
    go_ret
    exact ⟨rfl, 0, rfl⟩
  · go_enter Tryd.func6, Tryd.ntmps6
    go_wp2
    go_loop [5] (fun i => i = .int .i64 0) (fun _ => 0)
    case atStart => exact rfl
    case round =>
      obtain rfl := hrel
      have h1 : (0 : Int) < (s.size : Int) := by omega
      have h2 : (0 : Int) < (p.size : Int) := by omega
      go_wp2
      go_quiet (fail)
      go_wp2
      go_ret
      exact ⟨rfl, _, rfl⟩

set_option maxHeartbeats 400000 in
theorem dis_out (v u : Int) (w : World) (hv : v < 0 ∨ 2 < v ∨ u < 0 ∨ 2 < u) : Calls Tryd.prog 3 #[.int .i8 v, .int .i8 u] w fun e w' => e = .returned (.bool true) ∧ ∃ n, w' = w.drewN n := by
  by_cases h1 : v < 0
  · go_enter Tryd.func3, Tryd.ntmps3
    go_wp2
    go_ret
    exact ⟨rfl, 0, rfl⟩
  by_cases h2 : 2 < v
  · go_enter Tryd.func3, Tryd.ntmps3
    go_wp2
    go_ret
    exact ⟨rfl, 0, rfl⟩
  by_cases h3 : u < 0
  · go_enter Tryd.func3, Tryd.ntmps3
    go_wp2
    go_ret
    exact ⟨rfl, 0, rfl⟩
  · have h4 : 2 < u := by omega
    go_enter Tryd.func3, Tryd.ntmps3
    go_wp2
    go_ret
    exact ⟨rfl, 0, rfl⟩

set_option maxHeartbeats 400000 in
theorem dis_eq (v : Int) (s : ByteArray) (w : World) (h1 : ¬ v < 0) (h2 : ¬ 2 < v) (hc : Gives v s w) (hs : s.size < 100) (h0 : 0 < s.size) :
    Calls Tryd.prog 3 #[.int .i8 v, .int .i8 v] w fun e w' => e = .returned (.bool true) ∧ ∃ n, w' = w.drewN n := by
  have hvv : (v == v) = true := by simp
  have h0' : (0 : Int) < (s.size : Int) := by omega
  go_enter Tryd.func3, Tryd.ntmps3
  go_wp2_with (go_at_call 5; refine Calls.mono hc ?_; rintro e w' ⟨rfl, rfl⟩)
  go_ret
  exact ⟨rfl, 0, rfl⟩

set_option maxHeartbeats 400000 in
theorem dis_ne (v u : Int) (s t : ByteArray) (w : World) (h1 : ¬ v < 0) (h2 : ¬ 2 < v) (h3 : ¬ u < 0) (h4 : ¬ 2 < u) (hne : (v == u) = false) (hc : Gives v s w) (hd : Gives u t w) (hs : s.size < 100) (hs0 : 0 < s.size) (ht : t.size < 100) (ht0 : 0 < t.size)
    (h5 : ((s[0].toNat : Int) != (t[0].toNat : Int)) = true) (h6 : ((t[0].toNat : Int) != (s[0].toNat : Int)) = true) :
    Calls Tryd.prog 3 #[.int .i8 v, .int .i8 u] w fun e w' => e = .returned (.bool true) ∧ ∃ n, w' = w.drewN n := by
  go_enter Tryd.func3, Tryd.ntmps3
  go_wp2_with fail
  refine Calls.mono hc ?_
  rintro e w' ⟨rfl, rfl⟩
  go_wp2_with fail
  refine Calls.mono hd ?_
  rintro e w' ⟨rfl, rfl⟩
  go_wp2_with fail
  refine (pre_no s t _ hs ht hs0 ht0 h5).mono ?_
  rintro e w' ⟨rfl, n1, rfl⟩
  go_wp2_with fail
  refine (pre_no t s _ ht hs ht0 hs0 h6).mono ?_
  rintro e w' ⟨rfl, n2, rfl⟩
  go_wp2_with fail
  go_ret
  exact ⟨rfl, _, rfl⟩
end Go.Proofs.Qxb6613755aDoor
