/-
  Seat b6614187a: the walk of the law.
-/
import Derived.Test.Qxb6614187aLeaves
import Derived.Deep.QuietTactic
import Derived.BigQuiet
namespace Go.Proofs.Qxb6614187a
open Go Go.RowKit

/-- 'make' of n pointers. -/
theorem made (n : Nat) (hn : n ≤ 65536) : ∃ cur : Array Value, cur.size = n ∧ ∀ w : World, (Instr.makeSlice 26 (.int .i64 (n : Int)) (.int .i64 (n : Int))).run Try.prog w = .ok (.slice (some ⟨w.heap.size, 0, none⟩) n n) (w.alloc (.cells cur 28)) := by
  obtain ⟨i0, hi, hz0, hz1, hz2⟩ := info_parts Try.info28
  refine ⟨madeCells (Value.pointer none).cells (n * i0.size), by rw [size_madeCells, hz1, Nat.mul_one], fun w => ?_⟩
  have := run_make (P := Try.prog) w 26 28 i0 (.pointer none) Try.underlying26 hi hz0 .i64 .i64 (n : Int) (n : Int) (by omega) (by omega) (by rw [hz2]; omega) (by omega)
  simpa using this

set_option maxHeartbeats 1000000 in
theorem law_long (a : Option Addr) (len cap : Nat) (w : World) (h : 65536 < len) :
    Calls Try.prog 5 #[.slice a len cap] w fun e w' => e = .returned (.bool true) ∧ Below w.heap.size w w' := by
  by_cases hb : 1048576 < len
  · go_enter Try.func5, Try.ntmps5
    go_wp2_with (go_at_call 10; refine (bytes_no _ _ _ _ hb).mono ?_; rintro e w' ⟨rfl, rfl⟩)
    go_ret
    exact ⟨rfl, Below.refl _ _⟩
  · go_enter Try.func5, Try.ntmps5
    go_wp2_with (go_at_call 10; refine (bytes_yes _ _ _ _ (by omega)).mono ?_; rintro e w' ⟨rfl, rfl⟩)
    go_ret
    exact ⟨rfl, Below.refl _ _⟩

theorem reqtag_q (r : Nat) (z : Int) (w : World) (M n : Nat) (h : w.cell? ⟨r, 1, none⟩ = some (.int .u16 z)) : Calls Try.prog 13 #[.pointer (some ⟨r, 0, none⟩)] (w.drewN (M + n)) fun e w'' => e = .returned (.int .u16 z) ∧ ∃ m, w'' = w.drewN (M + m) :=
  (reqtag r z (w.drewN (M + n)) h).mono fun _ _ h => ⟨h.1, n, h.2.symm⟩

/-- Ahead of the first round. -/
theorem start_inv (w : World) (n : Nat) (zs : List Int) (cur : Array Value) (h : cur.size = n) :
    Inv w.heap.size n 0 zs w ((w.alloc (.cells #[.slice none 0 0] 27)).alloc (.cells cur 28)) (.slice none 0 0) [] := by
  have hb : ((w.alloc (.cells #[.slice none 0 0] 27)).alloc (.cells cur 28)).heap[w.heap.size]? = some (.cells #[.slice none 0 0] 27 (0, 0)) := by
    rw [Below.heap_alloc _ _ _ (by simp)]
    exact heap_alloc_new w _
  refine ⟨((Below.refl _ _).alloc (Nat.le_refl _) _).alloc (by simp) _, by simp, ?_, ?_, World.ownsRow_nil _ _ _ _, ⟨cur, ?_, h, fun i hi => by omega⟩, fun i hi => by omega⟩
  · rw [cell_of_row _ _ 0 _ _ _ hb]; rfl
  · exact frozen_of_row _ _ 0 _ _ hb
  · have := heap_alloc_new (w.alloc (.cells #[.slice none 0 0] 27)) (.cells cur 28)
    simpa using this

set_option maxHeartbeats 1000000 in
theorem law_short (a : Option Addr) (b off len cap : Nat) (zs : List Int) (w : World) (hlen : len ≤ 65536) (ha : 0 < len → a = some ⟨b, off, none⟩)
    (hc : ∀ i, i < len → w.cell? ⟨b, off + i, none⟩ = some (.int .u16 (zs.getD i 0))) :
    Calls Try.prog 5 #[.slice a len cap] w fun e w' => e = .returned (.bool true) ∧ Below w.heap.size w w' := by
  obtain ⟨cur, hcur, hmk⟩ := made len hlen
  have HC : Hid (∀ i, i < len → w.cell? ⟨b, off + i, none⟩ = some (.int .u16 (zs.getD i 0))) := hc
  have HA : Hid (0 < len → a = some ⟨b, off, none⟩) := ha
  have HZ : Hid (cur.size = len) := hcur
  clear hc ha hcur
  go_enter Try.func5, Try.ntmps5
  go_wp2_with (go_at_call 10; refine (bytes_yes _ _ _ _ (by omega)).mono ?_; rintro e w' ⟨rfl, rfl⟩)
  go_loopw [6] (fun i wr => ∃ k qv xs, k ≤ len ∧ i = .int .i64 (k : Nat) ∧ Inv w.heap.size len k zs w wr qv xs) (fun i _ => len - (intOf i).toNat)
  case atStart => exact ⟨0, _, _, Nat.zero_le _, rfl, start_inv w len zs cur HZ.out⟩
  case round =>
    obtain ⟨k, qv, xs, hk, rfl, hinv⟩ := hrel
    by_cases hlt : k < len
    · obtain rfl := HA.out (by omega)
      have hc1 : wr.cell? ⟨b, off + k, none⟩ = some (.int .u16 (zs.getD k 0)) := cell_later hinv.below (HC.out k hlt)
      go_wp2_with fail
      refine (newreq _ _).mono ?_
      rintro e W1 ⟨rfl, cs, hcs, hW1⟩
      obtain ⟨u, hu, _, hfz⟩ := hinv.rsCell hlt
      have hb1 : Below wr.heap.size wr W1 := by rw [hW1]; exact (Below.refl _ _).alloc (Nat.le_refl _) _
      have hu1 := cell_later hb1 hu
      have hf1 : W1.frozen? ⟨w.heap.size + 1, k, none⟩ = false := (hb1.frozen (p := ⟨w.heap.size + 1, k, none⟩) (by have := hinv.size; simp; omega)).trans hfz
      have hat := hinv.at cs
      have e1 : W1.setCell ⟨w.heap.size + 1, k, none⟩ (.pointer (some ⟨wr.heap.size, 0, none⟩)) = At w.heap.size k cs wr := by rw [hW1]; rfl
      rw [← e1] at hat
      have HE : Hid (W1.setCell ⟨w.heap.size + 1, k, none⟩ (.pointer (some ⟨wr.heap.size, 0, none⟩)) = At w.heap.size k cs wr) := e1
      have HT : Hid _ := hat
      have HCS : Hid (cs[1]? = some (.int .u16 (zs.getD k 0))) := hcs
      clear hcs hc1 e1 hat hb1 hfz hu hW1
      go_wp2_with fail
      obtain ⟨t1, t2, t3, t4⟩ := HT.out
      refine (zzadd w.heap.size (w.heap.size + 2) k ⟨wr.heap.size, 0, none⟩ qv xs _ t1 t2 (by omega) t3 t4 (by omega)).mono ?_
      rintro e w3 ⟨rfl, g, cap', hadd⟩
      rw [HE.out] at hadd
      have hinv' := hinv.step hlt HCS.out hadd
      have hq := hadd.cell
      have hg := hinv'.cellAt (i := k) (by omega)
      rw [List.getElem?_append_right (by rw [hinv.len]; omega), hinv.len] at hg
      simp only [Nat.sub_self, List.getElem?_cons_zero] at hg
      have hne := fun W => neq_same ⟨wr.heap.size, 0, none⟩ W
      clear t1 t2 t3 t4 hadd HT HE HCS hu1 hf1
      go_wp2_with fail
      go_roundw
      case rel => exact ⟨k + 1, _, _, by omega, by go_num, hinv'⟩
      case measure => simp [intOf]; omega
    · obtain rfl : k = len := by omega
      have hq := hinv.qcell
      have hne := fun a W => neq_same a W
      rcases hinv.own.2 with ⟨rfl, rfl⟩ | ⟨g, cap', cu, rfl, _, _, _⟩
      · go_wp2
        go_loopw [8] (fun i wx => i = .int .i64 0 ∧ wx = wr) (fun _ _ => 0)
        case atStart => exact ⟨rfl, rfl⟩
        case round =>
          obtain ⟨rfl, rfl⟩ := hrel
          go_wp2
          go_ret
          exact ⟨rfl, hinv.below⟩
      · go_wp2
        go_loopw [8] (fun i wx => ∃ j m : Nat, j ≤ k ∧ i = .int .i64 j ∧ wx = wr.drewN m) (fun i _ => k - (intOf i).toNat)
        case atStart => exact ⟨0, 0, Nat.zero_le _, rfl, rfl⟩
        case round =>
          obtain ⟨j, m, hj, rfl, rfl⟩ := hrel
          by_cases hjk : j < k
          · obtain ⟨r, cs, _, h1, h2, h3⟩ := hinv.reqs j hjk
            obtain ⟨u, hu, hux, _⟩ := hinv.rsCell hjk
            have hu1 := hux hjk
            rw [h1] at hu1
            obtain rfl := Option.some.inj hu1
            have hg := (hinv.cellAt hjk).trans h1
            have htag : wr.cell? ⟨r, 1, none⟩ = some (.int .u16 (zs.getD j 0)) := by rw [cell_of_row wr r 1 cs 53 (0, 0) h2]; exact h3
            obtain rfl := HA.out (by omega)
            have hc1 : wr.cell? ⟨b, off + j, none⟩ = some (.int .u16 (zs.getD j 0)) := cell_later hinv.below (HC.out j hjk)
            have hj1 : (j : Int) < (k : Int) := by omega
            clear hu1 hux h1 h2 h3
            generalize zs.getD j 0 = z at htag hc1
            go_wp2
            go_quiet (fail)
            go_wp2
            go_quiet ((go_at_call 13; exact reqtag_q r z wr _ _ htag))
            go_wp2
            go_roundw
            case rel => exact ⟨j + 1, _, by omega, by go_num, rfl⟩
            case measure => simp [intOf]; omega
          · go_wp2
            go_ret
            exact ⟨rfl, hinv.below.trans ⟨rfl, rfl, rfl, Nat.le_refl _, fun _ _ => rfl⟩⟩
end Go.Proofs.Qxb6614187a
