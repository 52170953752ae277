/-
  Seat b6614257aD: the walk of net/url.escape where a byte is escaped.
-/
import Derived.Test.Qxb6614257aDoorEscParts
namespace Go.Proofs.Qxb6614257aDoor
open Go Go.RowKit

set_option maxHeartbeats 1000000 in
set_option maxRecDepth 100000 in
theorem esc_some (s : ByteArray) (w : World) (hs : s.size ≤ 65536) (ht : TabAt w) (h0 : 0 < cnt s.data.toList) :
    Calls Tryd.prog 16 #[.string s, .int .u8 2] w fun e w' => e = .returned (.string ⟨(esc s.data.toList).toArray⟩) ∧ Below w.heap.size w w' := by
  obtain ⟨cap, o, hconv, hcell⟩ := conv_any s w
  have HT : Hid (TabAt w) := ht
  have HB : Hid (BytesAt s w.heap.size (w.alloc o).drew) := hcell
  have H0 : Hid (0 < cnt s.data.toList) := h0
  clear ht hcell h0
  go_enter Tryd.func16, Tryd.ntmps16
  go_wp2
  have hbel : Below w.heap.size w (w.alloc o).drew := ((Below.refl _ _).alloc (Nat.le_refl _) _).drew
  generalize (w.alloc o).drew = W1 at HB hbel ⊢
  have ht1 := tab_below HT.out hbel
  clear hconv
  go_loop [5, 6, 19] (fun sp hx i => ∃ k : Nat, k ≤ s.size ∧ i = .int .i64 k ∧ sp = .int .i64 0 ∧ hx = .int .i64 (cnt (s.data.toList.take k))) (fun _ _ i => s.size - (intOf i).toNat)
  case atStart => exact ⟨0, Nat.zero_le _, rfl, rfl, rfl⟩
  case round =>
    obtain ⟨k, hk, rfl, rfl, rfl⟩ := hrel
    have hle := cnt_take_le s k
    by_cases hlt : k < s.size
    · have hc := HB.out k hlt
      have HS : Hid (cnt (s.data.toList.take (k + 1)) = cnt (s.data.toList.take k) + (if keep s[k] then 0 else 1)) := cnt_snoc s k hlt
      cases hkeep : keep s[k]
      · cases h32 : ((s[k].toNat : Int) == 32)
        all_goals
          go_wp2_with (go_at_call 17; refine (should_any _ _ ht1).mono ?_; rintro e w' ⟨rfl, rfl⟩)
          go_round
          case rel => exact ⟨k + 1, by omega, by go_num, rfl, by rw [HS.out, hkeep]; go_num⟩
          case measure => simp [intOf]; omega
      · go_wp2_with (go_at_call 17; refine (should_any _ _ ht1).mono ?_; rintro e w' ⟨rfl, rfl⟩)
        go_round
        case rel => exact ⟨k + 1, by omega, by go_num, rfl, by rw [HS.out, hkeep]; go_num⟩
        case measure => simp [intOf]; omega
    · obtain rfl : k = s.size := by omega
      have hpos : 0 < cnt (s.data.toList.take s.size) := by rw [take_all]; exact H0.out
      have HN : Hid (cnt (s.data.toList.take s.size) = cnt s.data.toList) := by rw [Hid, take_all]
      clear hk
      generalize cnt (s.data.toList.take s.size) = n at hpos HN hle ⊢
      have hn0 : ((n : Int) == 0) = false := beq_eq_false_iff_ne.2 (by omega)
      have hsl := fun p (h : s.size + 2 * n ≤ 64) W => slice_buf p (s.size + 2 * n) ((s.size : Int) + 2 * (n : Int)) (by omega) h W
      obtain ⟨cur, hcur, hmk⟩ := make_bytes (s.size + 2 * n) ((s.size : Int) + 2 * (n : Int)) (by omega) (by omega)
      have HZ : Hid (cur.size = s.size + 2 * n) := hcur
      clear hcur
      have hconv2 := fun W => conv_named s W
      have hlen : s.size + 2 * n = (esc s.data.toList).length := by rw [esc_len, HN.out]; rfl
      have HL : Hid (s.size + 2 * n = (esc s.data.toList).length) := hlen
      clear hlen
      by_cases h64 : s.size + 2 * n ≤ 64
      · go_wp2
        generalize hO : Obj.cells #[.int .u8 0, .int .u8 0, .int .u8 0, .int .u8 0, .int .u8 0, .int .u8 0, .int .u8 0, .int .u8 0, .int .u8 0, .int .u8 0, .int .u8 0, .int .u8 0, .int .u8 0, .int .u8 0, .int .u8 0, .int .u8 0, .int .u8 0, .int .u8 0, .int .u8 0, .int .u8 0, .int .u8 0, .int .u8 0, .int .u8 0, .int .u8 0, .int .u8 0, .int .u8 0, .int .u8 0, .int .u8 0, .int .u8 0, .int .u8 0, .int .u8 0, .int .u8 0, .int .u8 0, .int .u8 0, .int .u8 0, .int .u8 0, .int .u8 0, .int .u8 0, .int .u8 0, .int .u8 0, .int .u8 0, .int .u8 0, .int .u8 0, .int .u8 0, .int .u8 0, .int .u8 0, .int .u8 0, .int .u8 0, .int .u8 0, .int .u8 0, .int .u8 0, .int .u8 0, .int .u8 0, .int .u8 0, .int .u8 0, .int .u8 0, .int .u8 0, .int .u8 0, .int .u8 0, .int .u8 0, .int .u8 0, .int .u8 0, .int .u8 0, .int .u8 0] 36 = O1
        have hst := start_buf s w W1 O1 _ hO rfl hbel (by rw [← HL.out]; omega)
        clear hO hmk hsl hconv2 HZ
        generalize capOf s (W1.alloc O1) = capD
        generalize ((W1.alloc O1).alloc (objOf s (W1.alloc O1))).drew = W3 at hst ⊢
        generalize W1.heap.size = T at hst ⊢
        generalize T + 1 = D at hst ⊢
        obtain ⟨E, hst⟩ : ∃ E, Tinv s T E D 0 w W3 := ⟨_, hst⟩
        go_loopw [13, 78] (fun jv iv wr => ∃ k : Nat, k ≤ s.size ∧ iv = .int .i64 k ∧ jv = .int .i64 ((esc (s.data.toList.take k)).length : Nat) ∧ Tinv s T E D k w wr) (fun _ iv _ => s.size - (intOf iv).toNat)
        case atStart => exact ⟨0, Nat.zero_le _, rfl, rfl, hst⟩
        case round =>
          obtain ⟨k, hk, rfl, rfl, hinv⟩ := hrel
          by_cases hlt : k < s.size
          · have hc := hinv.bytes k hlt
            have ht2 := tab_below HT.out hinv.below
            have hroom := esc_room s k hlt
            rw [← HL.out] at hroom
            have HJ : Hid (esc (s.data.toList.take (k + 1)) = esc (s.data.toList.take k) ++ esc1 s[k]) := esc_snoc s k hlt
            cases hkeep : keep s[k]
            · have e1 : esc1 s[k] = [37, hexd (s[k].toNat / 16), hexd (s[k].toNat % 16)] := by simp [esc1, hkeep]
              rw [e1] at hroom
              simp only [List.length_cons, List.length_nil] at hroom
              have HX : Hid (∀ a b : Int, a = ((hexd (s[k].toNat / 16)).toNat : Int) → b = ((hexd (s[k].toNat % 16)).toNat : Int) → Tinv s T E D (k + 1) w (((wr.setCell ⟨T, (esc (s.data.toList.take k)).length, none⟩ (.int .u8 37)).setCell ⟨T, (esc (s.data.toList.take k)).length + 1, none⟩ (.int .u8 a)).setCell ⟨T, (esc (s.data.toList.take k)).length + 2, none⟩ (.int .u8 b))) := fun a b ha hb => hinv.hexi hlt hkeep _ rfl a b ha hb
              have f0 := hinv.row.frozen
              obtain ⟨u0, c0⟩ := hinv.row.cell (i := (esc (s.data.toList.take k)).length) (by rw [← HL.out]; omega)
              obtain ⟨u1, c1⟩ := hinv.row.cell (i := (esc (s.data.toList.take k)).length + 1) (by rw [← HL.out]; omega)
              obtain ⟨u2, c2⟩ := hinv.row.cell (i := (esc (s.data.toList.take k)).length + 2) (by rw [← HL.out]; omega)
              have hb16 : (s[k].toNat : Int) < 256 := by have := s[k].toNat_lt; omega
              have HJ2 : Hid ((esc (s.data.toList.take (k + 1))).length = (esc (s.data.toList.take k)).length + 3) := by rw [Hid, HJ.out, e1]; simp
              clear HJ e1 hinv
              generalize (esc (s.data.toList.take k)).length = j at *
              cases h32 : ((s[k].toNat : Int) == 32)
              all_goals
                go_wp2_with (go_at_call 17; refine (should_any _ _ ht2).mono ?_; rintro e w' ⟨rfl, rfl⟩)
                go_roundw
                case rel => exact ⟨k + 1, by omega, by go_num, by rw [HJ2.out]; go_num, HX.out _ _ (hexS_int _ (hi_lt _) _) (hexS_int _ (lo_lt _) _)⟩
                case measure => simp [intOf]; omega
            · have e1 : esc1 s[k] = [s[k]] := by simp [esc1, hkeep]
              rw [e1] at hroom
              simp only [List.length_cons, List.length_nil] at hroom
              have hnext := hinv.kept hlt hkeep
              have f0 := hinv.row.frozen
              obtain ⟨u0, c0⟩ := hinv.row.cell (i := (esc (s.data.toList.take k)).length) (by rw [← HL.out]; omega)
              have HJ2 : Hid ((esc (s.data.toList.take (k + 1))).length = (esc (s.data.toList.take k)).length + 1) := by rw [Hid, HJ.out, e1]; simp
              have h32 : ((s[k].toNat : Int) == 32) = false := beq_eq_false_iff_ne.2 (by have := (keep_plain _ hkeep).1; omega)
              clear HJ e1 hinv
              generalize (esc (s.data.toList.take k)).length = j at *
              go_wp2_with (go_at_call 17; refine (should_any _ _ ht2).mono ?_; rintro e w' ⟨rfl, rfl⟩)
              go_roundw
              case rel => exact ⟨k + 1, by omega, by go_num, by rw [HJ2.out]; go_num, hnext⟩
              case measure => simp [intOf]; omega
          · obtain rfl : k = s.size := by omega
            have hback := fun c => hinv.back (s.size + 2 * n) HL.out c
            have hfin := hinv.below
            clear hinv hst
            go_wp2
            go_ret
            exact ⟨rfl, hfin⟩
      · go_wp2
        generalize Obj.cells #[.int .u8 0, .int .u8 0, .int .u8 0, .int .u8 0, .int .u8 0, .int .u8 0, .int .u8 0, .int .u8 0, .int .u8 0, .int .u8 0, .int .u8 0, .int .u8 0, .int .u8 0, .int .u8 0, .int .u8 0, .int .u8 0, .int .u8 0, .int .u8 0, .int .u8 0, .int .u8 0, .int .u8 0, .int .u8 0, .int .u8 0, .int .u8 0, .int .u8 0, .int .u8 0, .int .u8 0, .int .u8 0, .int .u8 0, .int .u8 0, .int .u8 0, .int .u8 0, .int .u8 0, .int .u8 0, .int .u8 0, .int .u8 0, .int .u8 0, .int .u8 0, .int .u8 0, .int .u8 0, .int .u8 0, .int .u8 0, .int .u8 0, .int .u8 0, .int .u8 0, .int .u8 0, .int .u8 0, .int .u8 0, .int .u8 0, .int .u8 0, .int .u8 0, .int .u8 0, .int .u8 0, .int .u8 0, .int .u8 0, .int .u8 0, .int .u8 0, .int .u8 0, .int .u8 0, .int .u8 0, .int .u8 0, .int .u8 0, .int .u8 0, .int .u8 0] 36 = O1
        have hst := start_made s w W1 O1 cur (by rw [HZ.out, ← HL.out]; omega) hbel
        clear hmk hsl hconv2 HZ
        generalize capOf s ((W1.alloc O1).alloc (Obj.cells cur 5)) = capD
        generalize (((W1.alloc O1).alloc (Obj.cells cur 5)).alloc (objOf s ((W1.alloc O1).alloc (Obj.cells cur 5)))).drew = W3 at hst ⊢
        generalize W1.heap.size + 1 = T at hst ⊢
        generalize T + 1 = D at hst ⊢
        obtain ⟨E, hst⟩ : ∃ E, Tinv s T E D 0 w W3 := ⟨_, hst⟩
        go_loopw [13, 78] (fun jv iv wr => ∃ k : Nat, k ≤ s.size ∧ iv = .int .i64 k ∧ jv = .int .i64 ((esc (s.data.toList.take k)).length : Nat) ∧ Tinv s T E D k w wr) (fun _ iv _ => s.size - (intOf iv).toNat)
        case atStart => exact ⟨0, Nat.zero_le _, rfl, rfl, hst⟩
        case round =>
          obtain ⟨k, hk, rfl, rfl, hinv⟩ := hrel
          by_cases hlt : k < s.size
          · have hc := hinv.bytes k hlt
            have ht2 := tab_below HT.out hinv.below
            have hroom := esc_room s k hlt
            rw [← HL.out] at hroom
            have HJ : Hid (esc (s.data.toList.take (k + 1)) = esc (s.data.toList.take k) ++ esc1 s[k]) := esc_snoc s k hlt
            cases hkeep : keep s[k]
            · have e1 : esc1 s[k] = [37, hexd (s[k].toNat / 16), hexd (s[k].toNat % 16)] := by simp [esc1, hkeep]
              rw [e1] at hroom
              simp only [List.length_cons, List.length_nil] at hroom
              have HX : Hid (∀ a b : Int, a = ((hexd (s[k].toNat / 16)).toNat : Int) → b = ((hexd (s[k].toNat % 16)).toNat : Int) → Tinv s T E D (k + 1) w (((wr.setCell ⟨T, (esc (s.data.toList.take k)).length, none⟩ (.int .u8 37)).setCell ⟨T, (esc (s.data.toList.take k)).length + 1, none⟩ (.int .u8 a)).setCell ⟨T, (esc (s.data.toList.take k)).length + 2, none⟩ (.int .u8 b))) := fun a b ha hb => hinv.hexi hlt hkeep _ rfl a b ha hb
              have f0 := hinv.row.frozen
              obtain ⟨u0, c0⟩ := hinv.row.cell (i := (esc (s.data.toList.take k)).length) (by rw [← HL.out]; omega)
              obtain ⟨u1, c1⟩ := hinv.row.cell (i := (esc (s.data.toList.take k)).length + 1) (by rw [← HL.out]; omega)
              obtain ⟨u2, c2⟩ := hinv.row.cell (i := (esc (s.data.toList.take k)).length + 2) (by rw [← HL.out]; omega)
              have hb16 : (s[k].toNat : Int) < 256 := by have := s[k].toNat_lt; omega
              have HJ2 : Hid ((esc (s.data.toList.take (k + 1))).length = (esc (s.data.toList.take k)).length + 3) := by rw [Hid, HJ.out, e1]; simp
              clear HJ e1 hinv
              generalize (esc (s.data.toList.take k)).length = j at *
              cases h32 : ((s[k].toNat : Int) == 32)
              all_goals
                go_wp2_with (go_at_call 17; refine (should_any _ _ ht2).mono ?_; rintro e w' ⟨rfl, rfl⟩)
                go_roundw
                case rel => exact ⟨k + 1, by omega, by go_num, by rw [HJ2.out]; go_num, HX.out _ _ (hexS_int _ (hi_lt _) _) (hexS_int _ (lo_lt _) _)⟩
                case measure => simp [intOf]; omega
            · have e1 : esc1 s[k] = [s[k]] := by simp [esc1, hkeep]
              rw [e1] at hroom
              simp only [List.length_cons, List.length_nil] at hroom
              have hnext := hinv.kept hlt hkeep
              have f0 := hinv.row.frozen
              obtain ⟨u0, c0⟩ := hinv.row.cell (i := (esc (s.data.toList.take k)).length) (by rw [← HL.out]; omega)
              have HJ2 : Hid ((esc (s.data.toList.take (k + 1))).length = (esc (s.data.toList.take k)).length + 1) := by rw [Hid, HJ.out, e1]; simp
              have h32 : ((s[k].toNat : Int) == 32) = false := beq_eq_false_iff_ne.2 (by have := (keep_plain _ hkeep).1; omega)
              clear HJ e1 hinv
              generalize (esc (s.data.toList.take k)).length = j at *
              go_wp2_with (go_at_call 17; refine (should_any _ _ ht2).mono ?_; rintro e w' ⟨rfl, rfl⟩)
              go_roundw
              case rel => exact ⟨k + 1, by omega, by go_num, by rw [HJ2.out]; go_num, hnext⟩
              case measure => simp [intOf]; omega
          · obtain rfl : k = s.size := by omega
            have hback := fun c => hinv.back (s.size + 2 * n) HL.out c
            have hfin := hinv.below
            clear hinv hst
            go_wp2
            go_ret
            exact ⟨rfl, hfin⟩
end Go.Proofs.Qxb6614257aDoor
