/-
  Seat b6614187a: the walks of the small callees.
-/
import Derived.Test.Qxb6614187aProg
import Derived.WalkKit
import Derived.WalkSpells
import Derived.Below
import Derived.LaidEqlPtr
namespace Go.Proofs.Qxb6614187a
open Go Go.RowKit

theorem Try.info28 : (Try.prog.info? 28).map (fun i => (i.zero, i.size, i.bytes)) = some (some (.pointer none), 1, 8) := by kernel_rfl

set_option maxHeartbeats 1000000 in
/-- ZZnewRequest: a new block whose second cell is the tag. -/
theorem newreq (z : Int) (w : World) : Calls Try.prog 11 #[.int .u16 z] w fun e w' => e = .returned (.pointer (some ⟨w.heap.size, 0, none⟩)) ∧ ∃ cs : Array Value, cs[1]? = some (.int .u16 z) ∧ w' = w.alloc (.cells cs 53) := by
  go_enter Try.func11, Try.ntmps11
  go_wp2
  go_ret
  exact ⟨rfl, _, rfl, rfl⟩

set_option maxHeartbeats 1000000 in
/-- ZZrequestTag: it reads that cell. -/
theorem reqtag (r : Nat) (z : Int) (w : World) (h : w.cell? ⟨r, 1, none⟩ = some (.int .u16 z)) : Calls Try.prog 13 #[.pointer (some ⟨r, 0, none⟩)] w fun e w' => e = .returned (.int .u16 z) ∧ w = w' := by
  go_enter Try.func13, Try.ntmps13
  go_wp2
  go_ret
  exact ⟨rfl, rfl⟩

set_option maxHeartbeats 1000000 in
/-- The bound laid by program: too long. -/
theorem bytes_no (a : Option Addr) (len cap : Nat) (w : World) (h : 1048576 < len) : Calls Try.prog 10 #[.slice a len cap] w fun e w' => e = .returned (.bool false) ∧ w = w' := by
  go_enter Try.func10, Try.ntmps10
  go_wp2
  go_ret
  exact ⟨rfl, rfl⟩
set_option maxHeartbeats 1000000 in
theorem bytes_yes (a : Option Addr) (len cap : Nat) (w : World) (h : len ≤ 1048576) : Calls Try.prog 10 #[.slice a len cap] w fun e w' => e = .returned (.bool true) ∧ w = w' := by
  go_enter Try.func10, Try.ntmps10
  go_wp2
  go_ret
  exact ⟨rfl, rfl⟩

/-- What 'add' leaves: the variable's cell holds a slice that owns one pointer more; nothing else of what was there has turned but the slice's own row. -/
structure Added (Q base : Nat) (r : Addr) (v : Value) (n : Nat) (xs : List Value) (w w' : World) (g cap : Nat) : Prop where
  cell : w'.cell? ⟨Q, 0, none⟩ = some (.slice (some ⟨g, 0, none⟩) (n + 1) cap)
  frozen : w'.frozen? ⟨Q, 0, none⟩ = false
  own : w'.ownsRow base 28 1 (.slice (some ⟨g, 0, none⟩) (n + 1) cap) (n + 1) (xs ++ [.pointer (some r)])
  os : w'.os = w.os
  tape : w'.tape = w.tape
  output : w'.output = w.output
  size : w.heap.size ≤ w'.heap.size
  block : ∀ k, k < w.heap.size → k ≠ Q → some k ≠ v.ownBlock → w'.heap[k]? = w.heap[k]?

theorem added_of {Q base n : Nat} {r : Addr} {v : Value} {xs : List Value} {w w1 : World} {g cap : Nat} {o : Obj} (hq : w1.cell? ⟨Q, 0, none⟩ = some v) (hf : w1.frozen? ⟨Q, 0, none⟩ = false) (hQ : Q < base)
    (hown' : w1.ownsRow base 28 1 (.slice (some ⟨g, 0, none⟩) (n + 1) cap) (n + 1) (xs ++ [.pointer (some r)])) (hgrow : (w.alloc o).grownBy w1 v.ownBlock) :
    Added Q base r v n xs w (w1.setCell ⟨Q, 0, none⟩ (.slice (some ⟨g, 0, none⟩) (n + 1) cap)) g cap := by
  have hsz : w.heap.size ≤ w1.heap.size := by have := hgrow.size; simp at this; omega
  refine ⟨?_, ?_, ownsRow_setCell_below hown' (a := ⟨Q, 0, none⟩) hQ _, hgrow.os, hgrow.tape, hgrow.output, ?_, ?_⟩
  · exact World.cell?_setCell_same _ _ _ hq
  · rw [World.frozen?_setCell]; exact hf
  · simpa using hsz
  · intro k hk hkQ hkv
    rw [Below.heap_setCell _ _ _ _ (by simpa using hkQ), hgrow.block k (by simp; omega) hkv, Below.heap_alloc _ _ _ hk]

set_option maxHeartbeats 1000000 in
theorem add_any (Q base n : Nat) (r : Addr) (v : Value) (xs : List Value) (w : World) (hq : w.cell? ⟨Q, 0, none⟩ = some v) (hf : w.frozen? ⟨Q, 0, none⟩ = false) (hQ : Q < base) (hb : base ≤ w.heap.size)
    (hown : w.ownsRow base 28 1 v n xs) (hn : n < 65536) :
    Calls Try.prog 15 #[.pointer (some ⟨Q, 0, none⟩), .pointer (some r)] w fun e w' => e = .returned (.tuple #[]) ∧ ∃ g cap, Added Q base r v n xs w w' g cap := by
  obtain ⟨i0, hi, hz0, hz1, hz2⟩ := info_parts Try.info28
  go_enter Try.func15, Try.ntmps15
  go_wp2_with (at_builtin; refine wpList_append_own _ rfl (.tmp 7) (.tmp 9) 27 rfl base 28 i0 (.pointer none) 1 8 Try.underlying27 hi hz0 hz1 hz2 rfl (by decide) _ _ _ rfl (hown.alloc _) ⟨w.heap.size, 0, none⟩ 1 1 [.pointer (some r)] rfl rfl ?c1 ?c2 ?c3 ?c4 ?c5 ?_)
  case c1 => exact cell_one_new _ _ _
  case c2 => intro u hu; simp at hu; subst hu; rfl
  case c3 => unfold maxLen; omega
  case c4 => omega
  case c5 => simp; omega
  · intro v' w1 hown' hgrow _
    obtain ⟨g, cap, rfl⟩ : ∃ g cap, v' = .slice (some ⟨g, 0, none⟩) (n + 1) cap := by
      rcases hown'.2 with ⟨_, h⟩ | ⟨g, cap, _, h, _⟩
      · omega
      · exact ⟨g, cap, h⟩
    have hne : some Q ≠ v.ownBlock := fun h => by have := (hown.lt Q h.symm).1; omega
    have hblk : w1.heap[Q]? = w.heap[Q]? := by rw [hgrow.block Q (by simp; omega) hne, Below.heap_alloc _ _ _ (by omega)]
    have hq1 : w1.cell? ⟨Q, 0, none⟩ = some v := (World.cell?_of_block (w := w) hblk).trans hq
    have hf1 : w1.frozen? ⟨Q, 0, none⟩ = false := (World.frozen?_of_block (w := w) hblk).trans hf
    have R := added_of hq1 hf1 hQ hown' hgrow
    clear hown' hgrow hown hq hf hblk hne
    go_wp2
    go_end0
    exact ⟨rfl, g, cap, R⟩

set_option maxHeartbeats 1000000 in
/-- ZZadd: the same. -/
theorem zzadd (Q base n : Nat) (r : Addr) (v : Value) (xs : List Value) (w : World) (hq : w.cell? ⟨Q, 0, none⟩ = some v) (hf : w.frozen? ⟨Q, 0, none⟩ = false) (hQ : Q < base) (hb : base ≤ w.heap.size)
    (hown : w.ownsRow base 28 1 v n xs) (hn : n < 65536) :
    Calls Try.prog 12 #[.pointer (some ⟨Q, 0, none⟩), .pointer (some r)] w fun e w' => e = .returned (.tuple #[]) ∧ ∃ g cap, Added Q base r v n xs w w' g cap := by
  go_enter Try.func12, Try.ntmps12
  go_wp2_with fail
  refine (add_any Q base n r v xs w hq hf hQ hb hown hn).mono ?_
  rintro e w' ⟨rfl, g, cap, R⟩
  go_wp2_with fail
  go_end0
  exact ⟨rfl, g, cap, R⟩

theorem Try.info53 : ∃ j, Try.prog.info? 53 = some j := Option.isSome_iff_exists.1 (by kernel_rfl)

/-- A pointer is not unequal to itself. -/
theorem neq_same (a : Addr) (w : World) : (binOp .neq 28 (.pointer (some a)) (.pointer (some a))).run Try.prog w = .ok (.bool false) w := by
  obtain ⟨j, hj⟩ := Try.info53
  have h : ∀ d : Nat, (Op.equalIn (d + 1) 28 (.pointer (some a)) (.pointer (some a))).run Try.prog w = .ok true w := fun d => by
    simp [Op.equalIn, run_underlying Try.underlying28, sizeOf, typeInfo, hj, run_sameAddr_same]
  simp only [binOp]
  simp [Op.equal, Op.maxDepth, h 9999]

/-- THE LOOP's RELATION: k requests have been made and added. B: the heap's size when the call began; block B: the variable q; block B + 1: the row rs. -/
structure Inv (B n k : Nat) (zs : List Int) (w0 wr : World) (qv : Value) (xs : List Value) : Prop where
  below : Below B w0 wr
  size : B + 2 ≤ wr.heap.size
  qcell : wr.cell? ⟨B, 0, none⟩ = some qv
  qfz : wr.frozen? ⟨B, 0, none⟩ = false
  own : wr.ownsRow (B + 2) 28 1 qv k xs
  rs : ∃ cur : Array Value, wr.heap[B + 1]? = some (.cells cur 28 (0, 0)) ∧ cur.size = n ∧ ∀ i, i < k → cur[i]? = xs[i]?
  reqs : ∀ i, i < k → ∃ r cs, B + 2 ≤ r ∧ xs[i]? = some (.pointer (some ⟨r, 0, none⟩)) ∧ wr.heap[r]? = some (.cells cs 53 (0, 0)) ∧ cs[1]? = some (.int .u16 (zs.getD i 0))

/-- The world as it stands at the call of ZZadd. -/
def At (B k : Nat) (cs : Array Value) (wr : World) : World := (wr.alloc (.cells cs 53)).setCell ⟨B + 1, k, none⟩ (.pointer (some ⟨wr.heap.size, 0, none⟩))

theorem Inv.len {B n k : Nat} {zs : List Int} {w0 wr : World} {qv : Value} {xs : List Value} (h : Inv B n k zs w0 wr qv xs) : xs.length = k := by simpa using h.own.1

theorem Inv.rsCell {B n k : Nat} {zs : List Int} {w0 wr : World} {qv : Value} {xs : List Value} (h : Inv B n k zs w0 wr qv xs) {i : Nat} (hi : i < n) : ∃ u, wr.cell? ⟨B + 1, i, none⟩ = some u ∧ (i < k → xs[i]? = some u) ∧ wr.frozen? ⟨B + 1, i, none⟩ = false := by
  obtain ⟨cur, hc, hs, he⟩ := h.rs
  have hcell := cell_of_row wr (B + 1) i cur 28 (0, 0) hc
  have hlt : i < cur.size := by omega
  refine ⟨cur[i], by rw [hcell]; simp [hlt], fun hk => ?_, ?_⟩
  · rw [← he i hk]; simp [hlt]
  · simp [World.frozen?, hc]

theorem Inv.at {B n k : Nat} {zs : List Int} {w0 wr : World} {qv : Value} {xs : List Value} (h : Inv B n k zs w0 wr qv xs) (cs : Array Value) :
    (At B k cs wr).cell? ⟨B, 0, none⟩ = some qv ∧ (At B k cs wr).frozen? ⟨B, 0, none⟩ = false ∧ B + 2 ≤ (At B k cs wr).heap.size ∧ (At B k cs wr).ownsRow (B + 2) 28 1 qv k xs := by
  have hs := h.size
  have hb : (At B k cs wr).heap[B]? = wr.heap[B]? := by
    unfold At
    rw [Below.heap_setCell _ _ _ _ (by simp), Below.heap_alloc _ _ _ (by omega)]
  refine ⟨(World.cell?_of_block (w := wr) hb).trans h.qcell, (World.frozen?_of_block (w := wr) hb).trans h.qfz, ?_, ?_⟩
  · unfold At; simp; omega
  · exact ownsRow_setCell_below (h.own.alloc _) (a := ⟨B + 1, k, none⟩) (by simp) _

theorem Inv.step {B n k : Nat} {zs : List Int} {w0 wr w3 : World} {qv : Value} {xs : List Value} {cs : Array Value} {g cap : Nat} (h : Inv B n k zs w0 wr qv xs) (hkn : k < n) (hcs : cs[1]? = some (.int .u16 (zs.getD k 0)))
    (ha : Added B (B + 2) ⟨wr.heap.size, 0, none⟩ qv k xs (At B k cs wr) w3 g cap) :
    Inv B n (k + 1) zs w0 w3 (.slice (some ⟨g, 0, none⟩) (k + 1) cap) (xs ++ [.pointer (some ⟨wr.heap.size, 0, none⟩)]) := by
  have hs := h.size
  have hlen := h.len
  have hsz : (At B k cs wr).heap.size = wr.heap.size + 1 := by simp [At]
  have hs3 := ha.size
  have hown : ∀ q, qv.ownBlock = some q → B + 2 ≤ q ∧ q < wr.heap.size := h.own.lt
  have hat : ∀ q, q < wr.heap.size → q ≠ B + 1 → (At B k cs wr).heap[q]? = wr.heap[q]? := fun q h1 h2 => by
    unfold At
    rw [Below.heap_setCell _ _ _ _ (by simpa using h2), Below.heap_alloc _ _ _ h1]
  -- a block that is neither q's, nor rs's, nor the slice's own row stands as it stood
  have far : ∀ q, q < wr.heap.size → q ≠ B → q ≠ B + 1 → some q ≠ qv.ownBlock → w3.heap[q]? = wr.heap[q]? := fun q h1 h2 h3 h4 =>
    (ha.block q (by omega) h2 h4).trans (hat q h1 h3)
  refine ⟨?_, by omega, ha.cell, ha.frozen, ha.own, ?_, ?_⟩
  · have b1 : Below B wr (At B k cs wr) := by
      unfold At
      exact ((Below.refl _ _).alloc (by omega) _).setCell (by simp) _
    refine h.below.trans (b1.trans ⟨ha.os, ha.tape, ha.output, ha.size, fun q hq => ha.block q (by omega) (by omega) (fun e => ?_)⟩)
    have := (hown q e.symm).1
    omega
  · obtain ⟨cur, hc, hcz, hce⟩ := h.rs
    refine ⟨cur.set! k (.pointer (some ⟨wr.heap.size, 0, none⟩)), ?_, by simpa using hcz, ?_⟩
    · rw [ha.block (B + 1) (by omega) (by omega) (fun e => by have := (hown _ e.symm).1; omega)]
      exact heap_setCell_same (wr.alloc (.cells cs 53)) (B + 1) k cur 28 _ ((Below.heap_alloc _ _ _ (by omega)).trans hc)
    · intro i hi
      by_cases hik : i = k
      · subst hik
        rw [List.getElem?_append_right (by omega)]
        simp [hlen, Array.set!_eq_setIfInBounds, hcz, hkn]
      · rw [List.getElem?_append_left (by omega), ← hce i (by omega)]
        simp [Array.set!_eq_setIfInBounds, Ne.symm hik]
  · intro i hi
    by_cases hik : i = k
    · subst hik
      refine ⟨wr.heap.size, cs, hs, ?_, ?_, hcs⟩
      · rw [List.getElem?_append_right (by omega)]; simp [hlen]
      · rw [ha.block wr.heap.size (by omega) (by omega) (fun e => by have := (hown _ e.symm).2; omega)]
        unfold At
        rw [Below.heap_setCell _ _ _ _ (show wr.heap.size ≠ B + 1 by omega)]
        exact heap_alloc_new wr (.cells cs 53)
    · obtain ⟨r, cs', h0, h1, h2, h3⟩ := h.reqs i (by omega)
      have hr : r < wr.heap.size := (Array.getElem?_eq_some_iff.1 h2).1
      refine ⟨r, cs', h0, by rw [List.getElem?_append_left (by omega)]; exact h1, ?_, h3⟩
      rw [far r hr (by omega) (by omega) ?_]
      · exact h2
      · intro e
        rcases h.own.2 with ⟨hv, _⟩ | ⟨q, cap', cur, hv, _, hq, _⟩
        · rw [hv] at e; simp [Value.ownBlock] at e
        · rw [hv] at e
          simp [Value.ownBlock] at e
          rw [← e, h2] at hq
          simp at hq

/-- The cells of the queue's own row. -/
theorem Inv.cellAt {B n k : Nat} {zs : List Int} {w0 wr : World} {g cap len : Nat} {xs : List Value} (h : Inv B n k zs w0 wr (.slice (some ⟨g, 0, none⟩) len cap) xs) {i : Nat} (hi : i < k) : wr.cell? ⟨g, i, none⟩ = xs[i]? := by
  have hl := h.len
  have hlt : i < xs.length := by omega
  have := h.own.cells (g := g) rfl i xs[i] (by simp [hlt])
  have hadd : (⟨g, 0, none⟩ : Addr).add i = ⟨g, i, none⟩ := by simp [Addr.add]; omega
  rw [hadd] at this
  rw [this]; simp [hlt]
end Go.Proofs.Qxb6614187a
