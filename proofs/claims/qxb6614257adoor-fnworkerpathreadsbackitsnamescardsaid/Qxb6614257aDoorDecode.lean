/-
  Seat b6614257aD: zzDecodeSegment reads an escaped segment back.
-/
import Derived.Test.Qxb6614257aDoorPaths
namespace Go.Proofs.Qxb6614257aDoor
open Go Go.RowKit

theorem list_same {a b : ByteArray} (h : a.data.toList = b.data.toList) : a = b := (eq_bs h).trans (eq_bs rfl).symm

/-- What stands in the escaped text where the k-th byte has been written. -/
theorem esc_at (t : ByteArray) (k d : Nat) (hk : k < t.size) (hd : d < (esc1 t[k]).length) (hj : (esc (t.data.toList.take k)).length + d < (bs (esc t.data.toList)).size) :
    (bs (esc t.data.toList))[(esc (t.data.toList.take k)).length + d] = (esc1 t[k])[d] := by
  have e : esc t.data.toList = esc (t.data.toList.take k) ++ (esc1 t[k] ++ esc (t.data.toList.drop (k + 1))) := by
    rw [← List.append_assoc, ← esc_snoc t k hk, ← esc_append, List.take_append_drop]
  have h1 : (bs (esc t.data.toList)).data.toList[(esc (t.data.toList.take k)).length + d]? = some (esc1 t[k])[d] := by
    rw [bs_data, e, List.getElem?_append_right (by omega), Nat.add_sub_cancel_left, List.getElem?_append_left hd]
    simp [hd]
  have h2 : (bs (esc t.data.toList)).data.toList[(esc (t.data.toList.take k)).length + d]? = some (bs (esc t.data.toList))[(esc (t.data.toList.take k)).length + d] := by
    rw [List.getElem?_eq_getElem (by rw [size_list]; exact hj)]
    rfl
  exact Option.some.inj (h2.symm.trans h1)

/-- 'make([]byte, 0, n)'. -/
theorem make_cap (m : Nat) (hm : m ≤ 1000000) : ∃ cur : Array Value, cur.size = m ∧ ∀ w : World, (Instr.makeSlice 30 (.int .i64 0) (.int .i64 (m : Int))).run Tryd.prog w = .ok (.slice (some ⟨w.heap.size, 0, none⟩) 0 m) (w.alloc (.cells cur 5)) := by
  obtain ⟨i0, hi, hz0, hz1, hz2⟩ := info_parts Tryd.info5
  refine ⟨madeCells (Value.int .u8 0).cells (m * i0.size), by rw [size_madeCells, hz1, Nat.mul_one], fun w => ?_⟩
  have := run_make (P := Tryd.prog) w 30 5 i0 (.int .u8 0) Tryd.underlying30 hi hz0 .i64 .i64 0 (m : Int) (by omega) (by omega) (by rw [hz2]; omega) (by omega)
  simpa using this

/-- The first k bytes, as cells. -/
def rowOf (t : ByteArray) (k : Nat) : List Value := (t.data.toList.take k).map bv

/-- THE LOOP's RELATION: k bytes have been read back. -/
structure Dinv (t : ByteArray) (k : Nat) (w0 wr : World) (v : Value) : Prop where
  below : Below w0.heap.size w0 wr
  own : wr.ownsRow w0.heap.size 5 1 v k (rowOf t k)

theorem Dinv.next {t : ByteArray} {k : Nat} {w0 wr w1 : World} {v v' : Value} {o : Obj} (h : Dinv t k w0 wr v) (hk : k < t.size)
    (hown : w1.ownsRow w0.heap.size 5 1 v' (k + 1) (rowOf t k ++ [.int .u8 (t[k].toNat : Int)])) (hg : (wr.alloc o).grownBy w1 v.ownBlock) : Dinv t (k + 1) w0 w1 v' := by
  refine ⟨(h.below.alloc h.below.size _).grown hg (by have := h.below.size; simp; omega) (fun q hq => (h.own.lt q hq).1), ?_⟩
  have e : rowOf t (k + 1) = rowOf t k ++ [.int .u8 (t[k].toNat : Int)] := by
    unfold rowOf
    rw [take_snoc t k hk, List.map_append]; rfl
  rw [e]
  exact hown

theorem Dinv.back {t : ByteArray} {w0 wr : World} {v : Value} (h : Dinv t t.size w0 wr v) : (convert 30 9 v).run Tryd.prog wr = .ok (.string t) wr := by
  have hown := h.own
  unfold rowOf at hown
  rw [take_all] at hown
  rcases hown.2 with ⟨rfl, h0⟩ | ⟨g, cap, cur, rfl, _, _, _⟩
  · rw [run_convert_bytes_nil wr 30 5 Tryd.underlying30 Tryd.underlying5 0 0 9 Tryd.underlying9]
    have : t = ByteArray.empty := list_same (by
      have hl := size_list t
      rw [h0] at hl
      rw [List.eq_nil_of_length_eq_zero hl]; rfl)
    rw [this]
  · have hl := size_list t
    have := run_convert_bytes_back (P := Tryd.prog) wr 30 9 5 ⟨g, 0, none⟩ cap t.data.toList Tryd.underlying30 Tryd.underlying5 Tryd.underlying9 (fun j hj => by
      have hj' : j < (t.data.toList.map bv).length := by simpa using hj
      have := hown.cells (g := g) rfl j _ (List.getElem?_eq_getElem hj')
      rw [this]
      simp [bv])
    rw [hl] at this
    rw [this]

set_option maxHeartbeats 1000000 in
set_option maxRecDepth 100000 in
theorem decode_any (t : ByteArray) (w : World) (ht : t.size ≤ 65536) :
    Calls Tryd.prog 9 #[.string (bs (esc t.data.toList))] w fun e w' => e = .returned (.tuple #[.string t, .bool true]) ∧ Below w.heap.size w w' := by
  obtain ⟨i0, hi, hz0, hz1, hz2⟩ := info_parts Tryd.info5
  have HE : Hid (∀ k d (hk : k < t.size) (hd : d < (esc1 t[k]).length) (hj : (esc (t.data.toList.take k)).length + d < (bs (esc t.data.toList)).size), (bs (esc t.data.toList))[(esc (t.data.toList.take k)).length + d] = (esc1 t[k])[d]) := esc_at t
  have hsz : (bs (esc t.data.toList)).size ≤ 196608 := esc_size t ht
  have HR : Hid (∀ k (hk : k < t.size), (esc (t.data.toList.take k)).length + (esc1 t[k]).length ≤ (bs (esc t.data.toList)).size) := fun k hk => by rw [bs_size]; exact esc_room t k hk
  have HN : Hid ((esc (t.data.toList.take t.size)).length = (bs (esc t.data.toList)).size) := by rw [Hid, take_all, bs_size]
  generalize bs (esc t.data.toList) = s at *
  obtain ⟨cur, hcur, hmk⟩ := make_cap s.size (by omega)
  have HZ : Hid (cur.size = s.size) := hcur
  clear hcur
  go_enter Tryd.func9, Tryd.ntmps9
  go_wp2
  go_loopw [4, 5] (fun ov iv wr => ∃ k : Nat, k ≤ t.size ∧ iv = .int .i64 ((esc (t.data.toList.take k)).length : Nat) ∧ Dinv t k w wr ov) (fun _ iv _ => s.size - (intOf iv).toNat)
  case atStart => exact ⟨0, Nat.zero_le _, rfl, ⟨(Below.refl _ _).alloc (Nat.le_refl _) _, World.ownsRow_made w cur s.size (Nat.le_refl _) (by unfold maxLen; omega) (by rw [HZ.out, Nat.mul_one])⟩⟩
  case round =>
    obtain ⟨k, hk, rfl, hinv⟩ := hrel
    by_cases hlt : k < t.size
    · have hroom := HR.out k hlt
      cases hkeep : keep t[k]
      · have e1 : esc1 t[k] = [37, hexd (t[k].toNat / 16), hexd (t[k].toNat % 16)] := by simp [esc1, hkeep]
        rw [e1] at hroom
        simp only [List.length_cons, List.length_nil] at hroom
        have hj0 : (esc (t.data.toList.take k)).length < s.size := by omega
        have hj1 : (esc (t.data.toList.take k)).length + 1 < s.size := by omega
        have hj2 : (esc (t.data.toList.take k)).length + 2 < s.size := by omega
        have hs0 : s[(esc (t.data.toList.take k)).length] = 37 := by
          have := HE.out k 0 hlt (by rw [e1]; simp) (by omega)
          simpa [e1] using this
        have hs1 : s[(esc (t.data.toList.take k)).length + 1] = hexd (t[k].toNat / 16) := by
          have := HE.out k 1 hlt (by rw [e1]; simp) (by omega)
          simpa [e1] using this
        have hs2 : s[(esc (t.data.toList.take k)).length + 2] = hexd (t[k].toNat % 16) := by
          have := HE.out k 2 hlt (by rw [e1]; simp) (by omega)
          simpa [e1] using this
        have HJ : Hid ((esc (t.data.toList.take (k + 1))).length = (esc (t.data.toList.take k)).length + 3) := by rw [Hid, esc_snoc t k hlt, e1]; simp
        have n0 := congrArg UInt8.toNat hs0
        have n1 := congrArg UInt8.toNat hs1
        have n2 := congrArg UInt8.toNat hs2
        rw [hexd_toNat _ (hi_lt _)] at n1
        rw [hexd_toNat _ (lo_lt _)] at n2
        have hlo := lo_lt t[k]
        have hhi := hi_lt t[k]
        have HV : Hid ((t[k].toNat / 16) * 16 + t[k].toNat % 16 = t[k].toNat) := Nat.div_add_mod' _ _
        clear hs0 hs1 hs2 e1 hkeep
        have hlt256 := t[k].toNat_lt
        generalize t[k].toNat / 16 = hi' at *
        generalize t[k].toNat % 16 = lo' at *
        generalize (esc (t.data.toList.take k)).length = j at *
        have b0 : ((s[j].toNat : Int) == 37) = true := by rw [n0]; rfl
        have N1 : Hid _ := n1
        have N2 : Hid _ := n2
        clear n0 n1 n2
        go_wp2_with fail
        rw [N1.out]
        refine (hexval hi' _ hhi).mono ?_
        rintro e w1 ⟨rfl, rfl⟩
        go_wp2_with fail
        rw [N2.out]
        refine (hexval lo' _ hlo).mono ?_
        rintro e w1 ⟨rfl, rfl⟩
        go_wp2_with (at_builtin; refine wpList_append_own _ rfl (.tmp 42) (.tmp 48) 30 rfl w.heap.size 5 i0 (.int .u8 0) 1 1 Tryd.underlying30 hi hz0 hz1 hz2 rfl (by decide) _ _ _ rfl (hinv.own.alloc _) ⟨wr.heap.size, 0, none⟩ 1 1 [.int .u8 ((hi' : Int) * 16 + (lo' : Int))] rfl rfl ?c1 ?c2 ?c3 ?c4 ?c5 ?_)
        case c1 => exact cell_one_new _ _ _
        case c2 => intro u hu; simp at hu; subst hu; rfl
        case c3 => unfold maxLen; omega
        case c4 => omega
        case c5 => have := hinv.below.size; simp; omega
        · intro v' w1 hown' hgrow _
          have hD : Dinv t (k + 1) w w1 v' := hinv.next hlt (by
            have e : ((hi' : Int) * 16 + (lo' : Int)) = (t[k].toNat : Int) := by have := HV.out; omega
            rw [e] at hown'; exact hown') hgrow
          clear hown' hgrow hinv
          go_wp2
          go_roundw
          case rel => exact ⟨k + 1, by omega, by rw [HJ.out]; go_num, hD⟩
          case measure => simp [intOf]; omega
      · have e1 : esc1 t[k] = [t[k]] := by simp [esc1, hkeep]
        rw [e1] at hroom
        simp only [List.length_cons, List.length_nil] at hroom
        have hj0 : (esc (t.data.toList.take k)).length < s.size := by omega
        have hs0 : s[(esc (t.data.toList.take k)).length] = t[k] := by
          have := HE.out k 0 hlt (by rw [e1]; simp) (by omega)
          simpa [e1] using this
        have HJ : Hid ((esc (t.data.toList.take (k + 1))).length = (esc (t.data.toList.take k)).length + 1) := by rw [Hid, esc_snoc t k hlt, e1]; simp
        obtain ⟨a1, a2, a3, a4, a5, a6, a7, a8⟩ := keep_plain _ hkeep
        rw [← hs0] at a1 a2 a3 a4 a5 a6 a7 a8
        have HS : Hid _ := hs0
        clear hs0 e1 hkeep
        generalize (esc (t.data.toList.take k)).length = j at *
        have b3 : ((s[j].toNat : Int) == 37) = false := beq_eq_false_iff_ne.2 (by omega)
        have b4 : ((s[j].toNat : Int) == 47) = false := beq_eq_false_iff_ne.2 (by omega)
        have b5 : ((s[j].toNat : Int) == 63) = false := beq_eq_false_iff_ne.2 (by omega)
        have b6 : ((s[j].toNat : Int) == 35) = false := beq_eq_false_iff_ne.2 (by omega)
        have b7 : ((s[j].toNat : Int) == 59) = false := beq_eq_false_iff_ne.2 (by omega)
        have b8 : ((s[j].toNat : Int) == 44) = false := beq_eq_false_iff_ne.2 (by omega)
        have c1 : decide ((s[j].toNat : Int) ≤ 32) = false := by simp; omega
        have c2 : decide (127 ≤ (s[j].toNat : Int)) = false := by simp; omega
        clear a3 a4 a5 a6 a7 a8
        go_wp2_with (at_builtin; refine wpList_append_own _ rfl (.tmp 78) (.tmp 80) 30 rfl w.heap.size 5 i0 (.int .u8 0) 1 1 Tryd.underlying30 hi hz0 hz1 hz2 rfl (by decide) _ _ _ rfl (hinv.own.alloc _) ⟨wr.heap.size, 0, none⟩ 1 1 [.int .u8 (s[j].toNat : Int)] rfl rfl ?c1 ?c2 ?c3 ?c4 ?c5 ?_)
        case c1 => exact cell_one_new _ _ _
        case c2 => intro u hu; simp at hu; subst hu; rfl
        case c3 => unfold maxLen; omega
        case c4 => omega
        case c5 => have := hinv.below.size; simp; omega
        · intro v' w1 hown' hgrow _
          have hD : Dinv t (k + 1) w w1 v' := hinv.next hlt (by rw [HS.out] at hown'; exact hown') hgrow
          clear hown' hgrow hinv
          go_wp2
          go_roundw
          case rel => exact ⟨k + 1, by omega, by rw [HJ.out]; go_num, hD⟩
          case measure => simp [intOf]; omega
    · obtain rfl : k = t.size := by omega
      have hback := hinv.back
      have hfin := hinv.below
      rw [HN.out]
      clear hinv HE HR HN
      go_wp2
      go_ret2
      exact ⟨rfl, hfin⟩
end Go.Proofs.Qxb6614257aDoor
