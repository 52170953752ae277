/-
  Seat b6614257aD: what the walk of net/url.escape wants beside it: the two buffers, the row that is filled.
-/
import Derived.Test.Qxb6614257aDoorEscape
namespace Go.Proofs.Qxb6614257aDoor
open Go Go.RowKit

theorem Tryd.info5 : (Tryd.prog.info? 5).map (fun i => (i.zero, i.size, i.bytes)) = some (some (.int .u8 0), 1, 1) := by kernel_rfl

/-- 'buf[:required]'. -/
theorem slice_buf (p m : Nat) (z : Int) (hz : z = (m : Int)) (hm : m ≤ 64) (w : World) :
    (Instr.sliceAt 36 (.pointer (some ⟨p, 0, none⟩)) none (some (.int .i64 z)) none).run Tryd.prog w = .ok (.slice (some ⟨p, 0, none⟩) m 64) w := by
  obtain ⟨i0, hi, _, hz1, _⟩ := info_parts Tryd.info5
  have e1 : Tryd.prog.arrayLen 36 = 64 := by kernel_rfl
  have e2 : Tryd.prog.elem 36 = 5 := by kernel_rfl
  have := run_sliceAt_array_h (P := Tryd.prog) w 36 ⟨p, 0, none⟩ Tryd.underlying36 .i64 z (by omega) (by rw [e1]; omega)
  rw [this, e1, e2]
  subst hz
  simp [sizeOf, typeInfo, hi, hz1, slicedAt, Addr.add]

/-- 'make([]byte, required)'. -/
theorem make_bytes (m : Nat) (z : Int) (hz : z = (m : Int)) (hm : m ≤ 1000000) : ∃ cur : Array Value, cur.size = m ∧ ∀ w : World, (Instr.makeSlice 30 (.int .i64 z) (.int .i64 z)).run Tryd.prog w = .ok (.slice (some ⟨w.heap.size, 0, none⟩) m m) (w.alloc (.cells cur 5)) := by
  obtain ⟨i0, hi, hz0, hz1, hz2⟩ := info_parts Tryd.info5
  refine ⟨madeCells (Value.int .u8 0).cells (m * i0.size), by rw [size_madeCells, hz1, Nat.mul_one], fun w => ?_⟩
  subst hz
  have := run_make (P := Tryd.prog) w 30 5 i0 (.int .u8 0) Tryd.underlying30 hi hz0 .i64 .i64 (m : Int) (m : Int) (by omega) (by omega) (by rw [hz2]; omega) (by omega)
  simpa using this

/-- What '[]byte(s)' makes, behind two names. -/
def capOf (s : ByteArray) (w : World) : Nat := grownCap w s.size 0 5
def objOf (s : ByteArray) (w : World) : Obj := .cells (bytesRow s (grownCap w s.size 0 5)) 5 ((bytesRow s (grownCap w s.size 0 5)).size, (bytesRow s (grownCap w s.size 0 5)).size + 1)
theorem conv_named (s : ByteArray) (w : World) : (convert 9 30 (.string s)).run Tryd.prog w = .ok (.slice (some ⟨w.heap.size, 0, none⟩) s.size (capOf s w)) (w.drew.alloc (objOf s w)) :=
  run_bytes_of_string w 9 30 5 s Tryd.underlying9 Tryd.underlying30 Tryd.underlying5
theorem objOf_bytes (s : ByteArray) (w0 w : World) : BytesAt s w.heap.size (w.alloc (objOf s w0)).drew := fun j hj => by
  have := World.cell?_alloc_mark w (bytesRow s (grownCap w0 s.size 0 5)) 5 ((bytesRow s (grownCap w0 s.size 0 5)).size, (bytesRow s (grownCap w0 s.size 0 5)).size + 1) j
  exact Eq.trans this (bytesRow_at s _ j hj)

/-- A byte as a cell. -/
def bv (b : UInt8) : Value := .int .u8 (b.toNat : Int)
/-- Block T, a row of at least N cells, begins with the cells xs. -/
def Pre (w : World) (T E N : Nat) (xs : List Value) : Prop := ∃ cur : Array Value, w.heap[T]? = some (.cells cur E (0, 0)) ∧ N ≤ cur.size ∧ cur.toList.take xs.length = xs
theorem Pre.cell {w : World} {T E N : Nat} {xs : List Value} (h : Pre w T E N xs) {i : Nat} (hi : i < N) : ∃ u, w.cell? ⟨T, i, none⟩ = some u := by
  obtain ⟨cur, h1, h2, _⟩ := h
  have hl : i < cur.size := by omega
  exact ⟨cur[i], by rw [cell_of_row w T i cur E (0, 0) h1]; simp [hl]⟩
theorem Pre.frozen {w : World} {T E N : Nat} {xs : List Value} (h : Pre w T E N xs) (i : Nat) : w.frozen? ⟨T, i, none⟩ = false := by
  obtain ⟨cur, h1, _, _⟩ := h
  exact frozen_of_row w T i cur E h1
theorem Pre.put {w : World} {T E N : Nat} {xs : List Value} (h : Pre w T E N xs) (hl : xs.length < N) (v : Value) : Pre (w.setCell ⟨T, xs.length, none⟩ v) T E N (xs ++ [v]) := by
  obtain ⟨cur, h1, h2, h3⟩ := h
  refine ⟨_, heap_setCell_same w T xs.length cur E v h1, by simpa using h2, ?_⟩
  have hlt : xs.length < cur.size := by omega
  rw [Array.toList_setIfInBounds, List.length_append, List.length_singleton, List.take_succ_eq_append_getElem (by simpa using hlt)]
  simp [List.take_set_of_le, h3]
theorem Pre.at {w : World} {T E N : Nat} {xs : List Value} (h : Pre w T E N xs) {i : Nat} (hi : i < xs.length) : w.cell? ⟨T, i, none⟩ = some xs[i] := by
  obtain ⟨cur, h1, h2, h3⟩ := h
  rw [cell_of_row w T i cur E (0, 0) h1]
  have : cur.toList[i]? = some xs[i] := by
    have e : (cur.toList.take xs.length)[i]? = some xs[i] := by rw [h3]; simp [hi]
    rw [List.getElem?_take] at e
    simpa [hi] using e
  simpa using this

/-- THE RELATION OF THE LOOP THAT WRITES: k bytes have been escaped into block T. -/
structure Tinv (s : ByteArray) (T E D k : Nat) (w0 wr : World) : Prop where
  below : Below w0.heap.size w0 wr
  bytes : BytesAt s D wr
  row : Pre wr T E (esc s.data.toList).length ((esc (s.data.toList.take k)).map bv)
  hT : w0.heap.size ≤ T
  hTD : T ≠ D

theorem esc_snoc (s : ByteArray) (k : Nat) (h : k < s.size) : esc (s.data.toList.take (k + 1)) = esc (s.data.toList.take k) ++ esc1 s[k] := by
  rw [take_snoc s k h, esc_append]; simp [esc]
theorem esc_room (s : ByteArray) (k : Nat) (h : k < s.size) : (esc (s.data.toList.take k)).length + (esc1 s[k]).length ≤ (esc s.data.toList).length := by
  have e : esc s.data.toList = esc (s.data.toList.take (k + 1)) ++ esc (s.data.toList.drop (k + 1)) := by rw [← esc_append, List.take_append_drop]
  rw [e, esc_snoc s k h]
  simp only [List.length_append]
  omega

theorem Tinv.put {s : ByteArray} {T D : Nat} {w0 wr : World} (hb : Below w0.heap.size w0 wr) (hy : BytesAt s D wr) (hT : w0.heap.size ≤ T) (hTD : T ≠ D) (j : Nat) (v : Value) :
    Below w0.heap.size w0 (wr.setCell ⟨T, j, none⟩ v) ∧ BytesAt s D (wr.setCell ⟨T, j, none⟩ v) :=
  ⟨hb.setCell hT v, fun i hi => by
    rw [World.cell?_setCell_other _ _ _ _ (fun e => hTD (congrArg Addr.block e))]
    exact hy i hi⟩

/-- A kept byte. -/
theorem Tinv.kept {s : ByteArray} {T E D k : Nat} {w0 wr : World} (h : Tinv s T E D k w0 wr) (hk : k < s.size) (hkeep : keep s[k] = true) :
    Tinv s T E D (k + 1) w0 (wr.setCell ⟨T, (esc (s.data.toList.take k)).length, none⟩ (bv s[k])) := by
  have hr := esc_room s k hk
  have e1 : esc1 s[k] = [s[k]] := by simp [esc1, hkeep]
  rw [e1] at hr
  obtain ⟨b1, y1⟩ := Tinv.put h.below h.bytes h.hT h.hTD (esc (s.data.toList.take k)).length (bv s[k])
  refine ⟨b1, y1, ?_, h.hT, h.hTD⟩
  have := h.row.put (by simp at hr ⊢; omega) (bv s[k])
  rw [esc_snoc s k hk, e1]
  simpa using this

/-- An escaped one. -/
theorem Tinv.hex {s : ByteArray} {T E D k : Nat} {w0 wr : World} (h : Tinv s T E D k w0 wr) (hk : k < s.size) (hkeep : keep s[k] = false) (j : Nat) (hj : j = (esc (s.data.toList.take k)).length) :
    Tinv s T E D (k + 1) w0 (((wr.setCell ⟨T, j, none⟩ (bv 37)).setCell ⟨T, j + 1, none⟩ (bv (hexd (s[k].toNat / 16)))).setCell ⟨T, j + 2, none⟩ (bv (hexd (s[k].toNat % 16)))) := by
  have hr := esc_room s k hk
  have e1 : esc1 s[k] = [37, hexd (s[k].toNat / 16), hexd (s[k].toNat % 16)] := by simp [esc1, hkeep]
  rw [e1] at hr
  simp only [List.length_cons, List.length_nil] at hr
  obtain ⟨b1, y1⟩ := Tinv.put h.below h.bytes h.hT h.hTD j (bv 37)
  obtain ⟨b2, y2⟩ := Tinv.put b1 y1 h.hT h.hTD (j + 1) (bv (hexd (s[k].toNat / 16)))
  obtain ⟨b3, y3⟩ := Tinv.put b2 y2 h.hT h.hTD (j + 2) (bv (hexd (s[k].toNat % 16)))
  refine ⟨b3, y3, ?_, h.hT, h.hTD⟩
  have r1 := h.row.put (by simp; omega) (bv 37)
  have r2 := r1.put (by simp; omega) (bv (hexd (s[k].toNat / 16)))
  have r3 := r2.put (by simp; omega) (bv (hexd (s[k].toNat % 16)))
  rw [esc_snoc s k hk, e1]
  subst hj
  simpa using r3

/-- The string of digits that the library indexes. -/
def hexS : ByteArray := { data := #[48, 49, 50, 51, 52, 53, 54, 55, 56, 57, 65, 66, 67, 68, 69, 70] }
theorem hexS_at : ∀ m (h : m < hexS.size), hexS[m].toNat = hexN m := by decide +kernel
theorem hexS_int (m : Nat) (hm : m < 16) (h : m < hexS.size) : (hexS[m].toNat : Int) = ((hexd m).toNat : Int) := by rw [hexS_at m h, hexd_toNat m hm]
theorem Tinv.hexi {s : ByteArray} {T E D k : Nat} {w0 wr : World} (h : Tinv s T E D k w0 wr) (hk : k < s.size) (hkeep : keep s[k] = false) (j : Nat) (hj : j = (esc (s.data.toList.take k)).length)
    (a b : Int) (ha : a = ((hexd (s[k].toNat / 16)).toNat : Int)) (hb : b = ((hexd (s[k].toNat % 16)).toNat : Int)) :
    Tinv s T E D (k + 1) w0 (((wr.setCell ⟨T, j, none⟩ (.int .u8 37)).setCell ⟨T, j + 1, none⟩ (.int .u8 a)).setCell ⟨T, j + 2, none⟩ (.int .u8 b)) := by
  subst ha; subst hb
  exact h.hex hk hkeep j hj

/-- 'string(t)' behind the loop. -/
theorem Tinv.back {s : ByteArray} {T E D : Nat} {w0 wr : World} (h : Tinv s T E D s.size w0 wr) (N : Nat) (hN : N = (esc s.data.toList).length) (cap : Nat) :
    (convert 30 9 (.slice (some ⟨T, 0, none⟩) N cap)).run Tryd.prog wr = .ok (.string ⟨(esc s.data.toList).toArray⟩) wr := by
  subst hN
  refine run_convert_bytes_back wr 30 9 5 ⟨T, 0, none⟩ cap (esc s.data.toList) Tryd.underlying30 Tryd.underlying5 Tryd.underlying9 (fun j hj => ?_)
  have hr := h.row
  rw [take_all] at hr
  have := hr.at (i := j) (by simpa using hj)
  have hadd : (⟨T, 0, none⟩ : Addr).add j = ⟨T, j, none⟩ := by simp [Addr.add]; omega
  rw [hadd, this]
  simp [bv]

theorem Pre.of_made {w : World} {T E N : Nat} {cur : Array Value} (h : w.heap[T]? = some (.cells cur E (0, 0))) (hN : N ≤ cur.size) : Pre w T E N [] := ⟨cur, h, hN, by simp⟩

/-- Ahead of the first round: the short buffer. -/
theorem start_buf (s : ByteArray) (w W1 : World) (o : Obj) (cur : Array Value) (hO : Obj.cells cur 36 = o) (hcur : cur.size = 64) (hb : Below w.heap.size w W1) (h64 : (esc s.data.toList).length ≤ 64) :
    Tinv s W1.heap.size 36 (W1.heap.size + 1) 0 w ((W1.alloc o).alloc (objOf s (W1.alloc o))).drew := by
  have hsz := hb.size
  have e : (W1.alloc o).heap.size = W1.heap.size + 1 := by simp
  refine ⟨((hb.alloc hsz _).alloc (by omega) _).drew, ?_, ?_, hsz, by omega⟩
  · have := objOf_bytes s (W1.alloc o) (W1.alloc o)
    rw [e] at this
    exact this
  · refine Pre.of_made (cur := cur) ?_ (by omega)
    show ((W1.alloc o).alloc (objOf s (W1.alloc o))).heap[W1.heap.size]? = _
    rw [Below.heap_alloc _ _ _ (by omega), ← hO]
    exact heap_alloc_new W1 _

/-- .. the made one. -/
theorem start_made (s : ByteArray) (w W1 : World) (o : Obj) (cur : Array Value) (hcur : (esc s.data.toList).length ≤ cur.size) (hb : Below w.heap.size w W1) :
    Tinv s (W1.heap.size + 1) 5 (W1.heap.size + 1 + 1) 0 w (((W1.alloc o).alloc (.cells cur 5)).alloc (objOf s ((W1.alloc o).alloc (.cells cur 5)))).drew := by
  have hsz := hb.size
  have e : (W1.alloc o).heap.size = W1.heap.size + 1 := by simp
  have e2 : ((W1.alloc o).alloc (.cells cur 5)).heap.size = W1.heap.size + 1 + 1 := by simp
  refine ⟨(((hb.alloc hsz _).alloc (by omega) _).alloc (by omega) _).drew, ?_, ?_, by omega, by omega⟩
  · have := objOf_bytes s ((W1.alloc o).alloc (.cells cur 5)) ((W1.alloc o).alloc (.cells cur 5))
    rw [e2] at this
    exact this
  · refine Pre.of_made (cur := cur) ?_ hcur
    show (((W1.alloc o).alloc (.cells cur 5)).alloc (objOf s ((W1.alloc o).alloc (.cells cur 5)))).heap[W1.heap.size + 1]? = _
    rw [Below.heap_alloc _ _ _ (by omega), ← e]
    exact heap_alloc_new (W1.alloc o) _

end Go.Proofs.Qxb6614257aDoor
