/-
  Seat b6614257aD: the walk of the law 'FnWorkerPathLiesUnderItsConsumerAndNamesOneWorker'.
-/
import Derived.Test.Qxb6614257aDoorPaths
namespace Go.Proofs.Qxb6614257aDoor
open Go Go.RowKit

set_option maxHeartbeats 1000000 in
/-- The bound laid by program: it answers, and touches nothing. -/
theorem bytes5_some (c n c2 n2 k : ByteArray) (w : World) (h1 : c.size ≤ maxLen) (h2 : n.size ≤ maxLen) (h3 : c2.size ≤ maxLen) (h4 : n2.size ≤ maxLen) (h5 : k.size ≤ maxLen) :
    Calls Tryd.prog 10 #[.string c, .string n, .string c2, .string n2, .string k] w fun e w' => ∃ b, e = .returned (.bool b) ∧ w = w' := by
  unfold maxLen at *
  go_enter Tryd.func10, Tryd.ntmps10
  go_wp2
  all_goals
    go_ret
    exact ⟨_, rfl, rfl⟩

set_option maxHeartbeats 1000000 in
theorem bytes5_yes (c n c2 n2 k : ByteArray) (w : World) (h1 : c.size ≤ 65536) (h2 : n.size ≤ 65536) (h3 : c2.size ≤ 65536) (h4 : n2.size ≤ 65536) (h5 : k.size ≤ 65536) :
    Calls Tryd.prog 10 #[.string c, .string n, .string c2, .string n2, .string k] w fun e w' => e = .returned (.bool true) ∧ w = w' := by
  go_enter Tryd.func10, Tryd.ntmps10
  go_wp2
  go_ret
  exact ⟨rfl, rfl⟩

theorem list_inj {a b : ByteArray} (h : a.data.toList = b.data.toList) : a = b := (eq_bs h).trans (eq_bs rfl).symm
theorem beq_true_of {a b : ByteArray} (h : a = b) : (a.toList == b.toList) = true := by subst h; simp
theorem beq_false_of {a b : ByteArray} (h : a ≠ b) : (a.toList == b.toList) = false := by
  rw [beq_eq_false_iff_ne, ByteArray.toList_eq, ByteArray.toList_eq]
  exact fun e => h (list_inj e)

theorem wpath_inj {c n c2 n2 k : ByteArray} (h : wpath c n k = wpath c2 n2 k) : c = c2 ∧ n = n2 := by
  have e := congrArg (fun s : ByteArray => s.data.toList) h
  simp only [wpath, bs_data] at e
  obtain ⟨e1, e2⟩ := path_inj _ _ _ _ _ e
  exact ⟨list_inj e1, list_inj e2⟩

theorem wpath_size (c n k : ByteArray) (hc : c.size ≤ 65536) (hn : n.size ≤ 65536) (hk : k.size ≤ 65536) : (wpath c n k).size ≤ 1000000 := by
  have h1 := esc_size c hc
  have h2 := esc_size n hn
  rw [bs_size] at h1 h2
  simp only [wpath, bs_size, pathL, List.length_append, preL, midL, List.length_cons, List.length_nil, size_list]
  omega

theorem extract_prefix (a b : List UInt8) : (bs (a ++ b)).extract 0 (bs a).size = bs a := by
  apply eq_bs
  rw [ByteArray.data_extract, Array.toList_extract, bs_size]
  simp [bs]

theorem cp_prefix (c : ByteArray) : (cpath c { data := #[] }).extract 0 ({ data := #[47, 118, 49, 47, 99, 111, 110, 115, 117, 109, 101, 114, 115, 47] } : ByteArray).size = { data := #[47, 118, 49, 47, 99, 111, 110, 115, 117, 109, 101, 114, 115, 47] } :=
  extract_prefix preL _
theorem cp_size (c : ByteArray) : (cpath c { data := #[] }).size = 14 + (esc c.data.toList).length := by
  simp [cpath, bs_size, preL]; omega
theorem p_prefix (c n k : ByteArray) : (wpath c n k).extract 0 (cpath c { data := #[] } ++ { data := #[47, 119, 111, 114, 107, 101, 114, 115, 47] }).size = cpath c { data := #[] } ++ { data := #[47, 119, 111, 114, 107, 101, 114, 115, 47] } := by
  have e1 : cpath c { data := #[] } ++ ({ data := #[47, 119, 111, 114, 107, 101, 114, 115, 47] } : ByteArray) = bs (preL ++ (esc c.data.toList ++ midL)) := by
    apply eq_bs
    simp [cpath, bs, midL, ByteArray.data_append]
  have e2 : wpath c n k = bs ((preL ++ (esc c.data.toList ++ midL)) ++ (esc n.data.toList ++ k.data.toList)) := by
    apply eq_bs
    simp [wpath, pathL, bs]
  rw [e1, e2]
  exact extract_prefix _ _

set_option maxHeartbeats 1000000 in
theorem under_in (c n c2 n2 k : ByteArray) (w : World) (h1 : c.size ≤ 65536) (h2 : n.size ≤ 65536) (h3 : c2.size ≤ 65536) (h4 : n2.size ≤ 65536) (h5 : k.size ≤ 65536) (ht : TabAt w) :
    Calls Tryd.prog 4 #[.string c, .string n, .string c2, .string n2, .string k] w fun e w' => e = .returned (.bool true) ∧ Below w.heap.size w w' := by
  obtain ⟨x, y, hx, hy, hxy⟩ : ∃ x y : Bool, (c.toList == c2.toList) = x ∧ (n.toList == n2.toList) = y ∧ ((wpath c n k).toList == (wpath c2 n2 k).toList) = (x && y) := by
    by_cases e1 : c = c2
    · by_cases e2 : n = n2
      · exact ⟨true, true, beq_true_of e1, beq_true_of e2, beq_true_of (by rw [e1, e2])⟩
      · exact ⟨true, false, beq_true_of e1, beq_false_of e2, beq_false_of (fun e => e2 (wpath_inj e).2)⟩
    · by_cases e2 : n = n2
      · exact ⟨false, true, beq_false_of e1, beq_true_of e2, beq_false_of (fun e => e1 (wpath_inj e).1)⟩
      · exact ⟨false, false, beq_false_of e1, beq_false_of e2, beq_false_of (fun e => e1 (wpath_inj e).1)⟩
  have s1 := wpath_size c n k h1 h2 h5
  have s2 := wpath_size c2 n2 k h3 h4 h5
  have s3 := cp_size c
  have s4 := esc_size c h1
  rw [bs_size] at s4
  have s5 : c.size ≤ (esc c.data.toList).length := by rw [esc_len, size_list]; omega
  have s6 : (cpath c { data := #[] }).size ≤ 1000000 := by omega
  have s7 : 14 + c.size ≤ (cpath c { data := #[] }).size := by omega
  have p1 := cp_prefix c
  have p2 := p_prefix c n k
  have p3 : (cpath c { data := #[] } ++ { data := #[47, 119, 111, 114, 107, 101, 114, 115, 47] }).size ≤ (wpath c n k).size := by
    have := congrArg ByteArray.size p2
    rw [ByteArray.size_extract] at this
    omega
  have P1 : Hid _ := p1
  have P2 : Hid _ := p2
  have P3 : Hid _ := p3
  clear p1 p2 p3 s3 s4 s5
  go_enter Tryd.func4, Tryd.ntmps4
  go_wp2_with fail
  refine (bytes5_yes c n c2 n2 k w h1 h2 h3 h4 h5).mono ?_
  rintro e w0 ⟨rfl, rfl⟩
  go_wp2_with fail
  refine (zzworkerPath_any c n k w h1 h2 h5 ht).mono ?_
  rintro e w1 ⟨rfl, b1⟩
  have ht1 := tab_below ht b1
  go_wp2_with fail
  refine (zzworkerPath_any c2 n2 k w1 h3 h4 h5 ht1).mono ?_
  rintro e w2 ⟨rfl, b2⟩
  have ht2 := tab_below ht1 b2
  go_wp2_with fail
  refine (zzconsumerPath_any c { data := #[] } w2 h1 (by decide) ht2).mono ?_
  rintro e w3 ⟨rfl, b3⟩
  go_wp2_with fail
  refine (hasPrefix_yes _ _ w3 (by have : ({ data := #[47, 118, 49, 47, 99, 111, 110, 115, 117, 109, 101, 114, 115, 47] } : ByteArray).size = 14 := rfl; omega) P1.out).mono ?_
  rintro e w4 ⟨rfl, rfl⟩
  go_wp2_with fail
  refine (hasPrefix_yes _ _ w3 P3.out P2.out).mono ?_
  rintro e w5 ⟨rfl, rfl⟩
  go_wp2_with fail
  all_goals
    go_ret
    exact ⟨rfl, b1.trans ((b2.mono b1.size).trans (b3.mono (Nat.le_trans b1.size b2.size)))⟩

set_option maxHeartbeats 1000000 in
/-- Too long an argument: the law answers by its first tests. -/
theorem under_out (c n c2 n2 k : ByteArray) (w : World) (h1 : c.size ≤ maxLen) (h2 : n.size ≤ maxLen) (h3 : c2.size ≤ maxLen) (h4 : n2.size ≤ maxLen) (h5 : k.size ≤ maxLen)
    (hout : 65536 < c.size ∨ 65536 < n.size ∨ 65536 < c2.size ∨ 65536 < n2.size ∨ 65536 < k.size) :
    Calls Tryd.prog 4 #[.string c, .string n, .string c2, .string n2, .string k] w fun e w' => e = .returned (.bool true) ∧ Below w.heap.size w w' := by
  have hcall := bytes5_some c n c2 n2 k w h1 h2 h3 h4 h5
  have HO : Hid (65536 < c.size ∨ 65536 < n.size ∨ 65536 < c2.size ∨ 65536 < n2.size ∨ 65536 < k.size) := hout
  have HC : Hid _ := hcall
  clear hcall hout
  go_enter Tryd.func4, Tryd.ntmps4
  go_wp2_with fail
  refine Calls.mono HC.out ?_
  rintro e w0 ⟨b, rfl, rfl⟩
  clear HC
  cases b
  · go_wp2_with fail
    go_ret
    exact ⟨rfl, Below.refl _ _⟩
  · by_cases g1 : 65536 < c.size
    · go_wp2_with fail
      go_ret
      exact ⟨rfl, Below.refl _ _⟩
    by_cases g2 : 65536 < n.size
    · go_wp2_with fail
      go_ret
      exact ⟨rfl, Below.refl _ _⟩
    by_cases g3 : 65536 < c2.size
    · go_wp2_with fail
      go_ret
      exact ⟨rfl, Below.refl _ _⟩
    by_cases g4 : 65536 < n2.size
    · go_wp2_with fail
      go_ret
      exact ⟨rfl, Below.refl _ _⟩
    have g5 : 65536 < k.size := by have := HO.out; omega
    go_wp2_with fail
    go_ret
    exact ⟨rfl, Below.refl _ _⟩

theorem under_all (c n c2 n2 k : ByteArray) (w : World) (h1 : c.size ≤ maxLen) (h2 : n.size ≤ maxLen) (h3 : c2.size ≤ maxLen) (h4 : n2.size ≤ maxLen) (h5 : k.size ≤ maxLen) (ht : TabAt w) :
    Calls Tryd.prog 4 #[.string c, .string n, .string c2, .string n2, .string k] w fun e w' => e = .returned (.bool true) ∧ Below w.heap.size w w' := by
  by_cases h : c.size ≤ 65536 ∧ n.size ≤ 65536 ∧ c2.size ≤ 65536 ∧ n2.size ≤ 65536 ∧ k.size ≤ 65536
  · exact under_in c n c2 n2 k w h.1 h.2.1 h.2.2.1 h.2.2.2.1 h.2.2.2.2 ht
  · exact under_out c n c2 n2 k w h1 h2 h3 h4 h5 (by omega)
end Go.Proofs.Qxb6614257aDoor
