/-
  Seat b6614257aD: the walk of the law 'FnWorkerPathReadsBackItsNames'.
-/
import Derived.Test.Qxb6614257aDoorDecode
namespace Go.Proofs.Qxb6614257aDoor
open Go Go.RowKit

set_option maxHeartbeats 1000000 in
/-- The bound laid by program: it answers, and touches nothing. -/
theorem bytes3_some (c n k : ByteArray) (w : World) (h1 : c.size ≤ maxLen) (h2 : n.size ≤ maxLen) (h3 : k.size ≤ maxLen) :
    Calls Tryd.prog 5 #[.string c, .string n, .string k] w fun e w' => ∃ b, e = .returned (.bool b) ∧ w = w' := by
  unfold maxLen at *
  go_enter Tryd.func5, Tryd.ntmps5
  go_wp2
  all_goals
    go_ret
    exact ⟨_, rfl, rfl⟩

set_option maxHeartbeats 1000000 in
theorem bytes3_yes (c n k : ByteArray) (w : World) (h1 : c.size ≤ 65536) (h2 : n.size ≤ 65536) (h3 : k.size ≤ 65536) :
    Calls Tryd.prog 5 #[.string c, .string n, .string k] w fun e w' => e = .returned (.bool true) ∧ w = w' := by
  go_enter Tryd.func5, Tryd.ntmps5
  go_wp2
  go_ret
  exact ⟨rfl, rfl⟩

theorem cut_head (a b : List UInt8) : (bs (a ++ b)).extract 0 a.length = bs a := by
  apply eq_bs
  rw [ByteArray.data_extract, Array.toList_extract]
  simp [bs]
theorem cut_tail (a b : List UInt8) : (bs (a ++ b)).extract a.length (bs (a ++ b)).size = bs b := by
  apply eq_bs
  rw [ByteArray.data_extract, Array.toList_extract, bs_size]
  simp [bs]

/-- The parts of the path with no call. -/
def restL (c n : ByteArray) : List UInt8 := esc c.data.toList ++ (midL ++ esc n.data.toList)
theorem base_is (c n : ByteArray) : wpath c n { data := #[] } = bs (preL ++ restL c n) := by
  apply eq_bs
  simp [wpath, pathL, bs, restL]
theorem base_head (c n : ByteArray) : (wpath c n { data := #[] }).extract 0 ({ data := #[47, 118, 49, 47, 99, 111, 110, 115, 117, 109, 101, 114, 115, 47] } : ByteArray).size = { data := #[47, 118, 49, 47, 99, 111, 110, 115, 117, 109, 101, 114, 115, 47] } := by
  rw [base_is]; exact cut_head preL _
theorem base_tail (c n : ByteArray) : (wpath c n { data := #[] }).extract 14 (wpath c n { data := #[] }).size = bs (restL c n) := by
  rw [base_is]; exact cut_tail preL _
theorem base_size (c n : ByteArray) : (wpath c n { data := #[] }).size = 14 + (restL c n).length := by
  rw [base_is, bs_size, List.length_append]; rfl
theorem whole_is (c n k : ByteArray) : wpath c n k = wpath c n { data := #[] } ++ k := by
  rw [base_is]
  apply ByteArray.ext
  simp [wpath, pathL, bs, restL, ByteArray.data_append]
theorem rest_head (c n : ByteArray) : (bs (restL c n)).extract 0 (esc c.data.toList).length = bs (esc c.data.toList) := cut_head _ _
theorem rest_tail (c n : ByteArray) : (bs (restL c n)).extract (esc c.data.toList).length (bs (restL c n)).size = bs (midL ++ esc n.data.toList) := cut_tail _ _
theorem tail_head (n : ByteArray) : (bs (midL ++ esc n.data.toList)).extract 0 ({ data := #[47, 119, 111, 114, 107, 101, 114, 115, 47] } : ByteArray).size = { data := #[47, 119, 111, 114, 107, 101, 114, 115, 47] } := cut_head midL _
theorem tail_tail (n : ByteArray) : (bs (midL ++ esc n.data.toList)).extract 9 (bs (midL ++ esc n.data.toList)).size = bs (esc n.data.toList) := cut_tail midL _
theorem rest_size (c n : ByteArray) : (bs (restL c n)).size = (esc c.data.toList).length + (9 + (esc n.data.toList).length) := by
  rw [bs_size]; simp [restL, midL]; omega
theorem tail_size (n : ByteArray) : (bs (midL ++ esc n.data.toList)).size = 9 + (esc n.data.toList).length := by
  rw [bs_size]; simp [midL]; omega

theorem get_of_list {s : ByteArray} {i : Nat} (h : i < s.size) {u : UInt8} (e : s.data.toList[i]? = some u) : s[i] = u := by
  have h2 : s.data.toList[i]? = some s[i] := by
    rw [List.getElem?_eq_getElem (by rw [size_list]; exact h)]; rfl
  exact Option.some.inj (h2.symm.trans e)

/-- The first slash of the rest stands behind the consumer's segment. -/
theorem rest_slash (c n : ByteArray) (h : (esc c.data.toList).length < (bs (restL c n)).size) : (bs (restL c n))[(esc c.data.toList).length].toNat = 47 := by
  rw [get_of_list h (u := 47) (by rw [bs_data]; simp [restL, midL])]; rfl
theorem rest_noslash (c n : ByteArray) (i : Nat) (h : i < (bs (restL c n)).size) (hi : i < (esc c.data.toList).length) : (bs (restL c n))[i].toNat ≠ 47 := by
  rw [get_of_list h (u := (esc c.data.toList)[i]) (by rw [bs_data, restL, List.getElem?_append_left hi]; simp [hi])]
  exact slash_not_mem _ _ (List.getElem_mem hi)
end Go.Proofs.Qxb6614257aDoor
