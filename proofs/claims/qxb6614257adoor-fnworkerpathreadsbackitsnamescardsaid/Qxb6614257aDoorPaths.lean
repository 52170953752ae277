/-
  Seat b6614257aD: PathEscape, consumerPath, workerPath and their exports.
-/
import Derived.Test.Qxb6614257aDoorEscape2
namespace Go.Proofs.Qxb6614257aDoor
open Go Go.RowKit

/-- A list of bytes as a string. -/
def bs (l : List UInt8) : ByteArray := ⟨l.toArray⟩
theorem bs_size (l : List UInt8) : (bs l).size = l.length := by simp [bs, ByteArray.size]
theorem bs_data (l : List UInt8) : (bs l).data.toList = l := by simp [bs]
theorem eq_bs {s : ByteArray} {l : List UInt8} (h : s.data.toList = l) : s = bs l := by
  subst h
  apply ByteArray.ext
  simp [bs]
theorem size_list (s : ByteArray) : s.data.toList.length = s.size := by rw [Array.length_toList]; rfl
theorem ret_string {a b : ByteArray} (h : a = b) : Ending.returned (.string a) = .returned (.string b) := by rw [h]

theorem escape_any (s : ByteArray) (w : World) (hs : s.size ≤ 65536) (ht : TabAt w) :
    Calls Tryd.prog 16 #[.string s, .int .u8 2] w fun e w' => e = .returned (.string (bs (esc s.data.toList))) ∧ Below w.heap.size w w' := by
  by_cases h0 : cnt s.data.toList = 0
  · refine (esc_none s w hs ht h0).mono ?_
    rintro e w' ⟨rfl, hb⟩
    exact ⟨ret_string (eq_bs (esc_of_cnt _ h0).symm), hb⟩
  · exact esc_some s w hs ht (by omega)

set_option maxHeartbeats 400000 in
theorem pathEscape_any (s : ByteArray) (w : World) (hs : s.size ≤ 65536) (ht : TabAt w) :
    Calls Tryd.prog 15 #[.string s] w fun e w' => e = .returned (.string (bs (esc s.data.toList))) ∧ Below w.heap.size w w' := by
  go_enter Tryd.func15, Tryd.ntmps15
  go_wp2_with fail
  refine (escape_any s w hs ht).mono ?_
  rintro e w' ⟨rfl, hb⟩
  go_wp2_with fail
  go_ret
  exact ⟨rfl, hb⟩

theorem esc_size (s : ByteArray) (hs : s.size ≤ 65536) : (bs (esc s.data.toList)).size ≤ 196608 := by
  rw [bs_size, esc_len, size_list]
  have := cnt_le s.data.toList
  rw [size_list] at this
  omega

/-- The path of a consumer. -/
def cpath (name call : ByteArray) : ByteArray := bs (preL ++ (esc name.data.toList ++ call.data.toList))

set_option maxHeartbeats 400000 in
theorem consumerPath_any (name call : ByteArray) (w : World) (hs : name.size ≤ 65536) (hc : call.size ≤ 1000000) (ht : TabAt w) :
    Calls Tryd.prog 14 #[.string name, .string call] w fun e w' => e = .returned (.string (cpath name call)) ∧ Below w.heap.size w w' := by
  have hsz := esc_size name hs
  have hfin : ({ data := #[47, 118, 49, 47, 99, 111, 110, 115, 117, 109, 101, 114, 115, 47] } : ByteArray) ++ bs (esc name.data.toList) ++ call = cpath name call := by
    apply eq_bs
    simp [bs, preL, ByteArray.data_append]
  have HF : Hid (({ data := #[47, 118, 49, 47, 99, 111, 110, 115, 117, 109, 101, 114, 115, 47] } : ByteArray) ++ bs (esc name.data.toList) ++ call = cpath name call) := hfin
  clear hfin
  go_enter Tryd.func14, Tryd.ntmps14
  go_wp2_with fail
  refine (pathEscape_any name w hs ht).mono ?_
  rintro e w' ⟨rfl, hb⟩
  generalize bs (esc name.data.toList) = r at *
  go_wp2_with fail
  go_ret
  exact ⟨ret_string HF.out, hb⟩

/-- The path of a worker. -/
def wpath (c n call : ByteArray) : ByteArray := bs (pathL c.data.toList n.data.toList call.data.toList)

set_option maxHeartbeats 400000 in
theorem workerPath_any (c n call : ByteArray) (w : World) (hc : c.size ≤ 65536) (hn : n.size ≤ 65536) (hk : call.size ≤ 65536) (ht : TabAt w) :
    Calls Tryd.prog 12 #[.string c, .string n, .string call] w fun e w' => e = .returned (.string (wpath c n call)) ∧ Below w.heap.size w w' := by
  have hsz := esc_size n hn
  have hfin : cpath c (({ data := #[47, 119, 111, 114, 107, 101, 114, 115, 47] } : ByteArray) ++ bs (esc n.data.toList) ++ call) = wpath c n call := by
    unfold cpath wpath pathL
    have e : (({ data := #[47, 119, 111, 114, 107, 101, 114, 115, 47] } : ByteArray) ++ bs (esc n.data.toList) ++ call).data.toList = midL ++ (esc n.data.toList ++ call.data.toList) := by simp [bs, midL, ByteArray.data_append]
    rw [e]
  have HF : Hid (cpath c (({ data := #[47, 119, 111, 114, 107, 101, 114, 115, 47] } : ByteArray) ++ bs (esc n.data.toList) ++ call) = wpath c n call) := hfin
  clear hfin
  go_enter Tryd.func12, Tryd.ntmps12
  go_wp2_with fail
  refine (pathEscape_any n w hn ht).mono ?_
  rintro e w1 ⟨rfl, hb⟩
  generalize bs (esc n.data.toList) = r at *
  have ht1 := tab_below ht hb
  go_wp2_with fail
  refine (consumerPath_any c _ _ hc ?_ ht1).mono ?_
  · simp only [ByteArray.size_append]
    have : ({ data := #[47, 119, 111, 114, 107, 101, 114, 115, 47] } : ByteArray).size = 9 := rfl
    omega
  rintro e w2 ⟨rfl, hb2⟩
  rw [HF.out]
  go_wp2_with fail
  go_ret
  exact ⟨rfl, hb.trans (hb2.mono hb.size)⟩

set_option maxHeartbeats 400000 in
theorem zzworkerPath_any (c n call : ByteArray) (w : World) (hc : c.size ≤ 65536) (hn : n.size ≤ 65536) (hk : call.size ≤ 65536) (ht : TabAt w) :
    Calls Tryd.prog 6 #[.string c, .string n, .string call] w fun e w' => e = .returned (.string (wpath c n call)) ∧ Below w.heap.size w w' := by
  go_enter Tryd.func6, Tryd.ntmps6
  go_wp2_with fail
  refine (workerPath_any c n call w hc hn hk ht).mono ?_
  rintro e w1 ⟨rfl, hb⟩
  go_wp2_with fail
  go_ret
  exact ⟨rfl, hb⟩

set_option maxHeartbeats 400000 in
theorem zzconsumerPath_any (name call : ByteArray) (w : World) (hs : name.size ≤ 65536) (hc : call.size ≤ 1000000) (ht : TabAt w) :
    Calls Tryd.prog 11 #[.string name, .string call] w fun e w' => e = .returned (.string (cpath name call)) ∧ Below w.heap.size w w' := by
  go_enter Tryd.func11, Tryd.ntmps11
  go_wp2_with fail
  refine (consumerPath_any name call w hs hc ht).mono ?_
  rintro e w1 ⟨rfl, hb⟩
  go_wp2_with fail
  go_ret
  exact ⟨rfl, hb⟩
end Go.Proofs.Qxb6614257aDoor
