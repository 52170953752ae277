/-
  Seat b6614257aD: the plain laws: what escaping a path segment does to a list of bytes. No Go in sight.
-/
namespace Go.Proofs.Qxb6614257aDoor

/-- The bytes that stand for themselves in a path segment. -/
def keepN (n : Nat) : Bool :=
  (48 ≤ n && n ≤ 57) || (65 ≤ n && n ≤ 90) || (97 ≤ n && n ≤ 122) || n == 36 || n == 38 || n == 43 || n == 45 || n == 46 || n == 58 || n == 61 || n == 64 || n == 95 || n == 126
def keep (c : UInt8) : Bool := keepN c.toNat

/-- The digit of n below 16. -/
def hexN (n : Nat) : Nat := if n < 10 then 48 + n else 55 + n
def hexd (n : Nat) : UInt8 := UInt8.ofNat (hexN n)

def esc1 (c : UInt8) : List UInt8 := if keep c then [c] else [37, hexd (c.toNat / 16), hexd (c.toNat % 16)]
def esc : List UInt8 → List UInt8
  | [] => []
  | c :: l => esc1 c ++ esc l
/-- How many bytes are not kept. -/
def cnt : List UInt8 → Nat
  | [] => 0
  | c :: l => (if keep c then 0 else 1) + cnt l

theorem esc_append (a b : List UInt8) : esc (a ++ b) = esc a ++ esc b := by
  induction a with
  | nil => rfl
  | cons c a ih => simp [esc, ih]
theorem cnt_append (a b : List UInt8) : cnt (a ++ b) = cnt a + cnt b := by
  induction a with
  | nil => simp [cnt]
  | cons c a ih => simp [cnt, ih]; omega
theorem esc1_len (c : UInt8) : (esc1 c).length = 1 + 2 * (if keep c then 0 else 1) := by
  unfold esc1; split <;> simp
theorem esc_len (l : List UInt8) : (esc l).length = l.length + 2 * cnt l := by
  induction l with
  | nil => rfl
  | cons c l ih => simp [esc, cnt, esc1_len, ih]; omega
theorem cnt_le (l : List UInt8) : cnt l ≤ l.length := by
  induction l with
  | nil => simp [cnt]
  | cons c l ih => simp only [cnt, List.length_cons]; split <;> omega
theorem esc_of_cnt (l : List UInt8) (h : cnt l = 0) : esc l = l := by
  induction l with
  | nil => rfl
  | cons c l ih =>
    simp only [cnt] at h
    have h1 : keep c = true := by
      cases hk : keep c
      · rw [hk] at h; simp at h
      · rfl
    rw [h1] at h
    simp [esc, esc1, h1, ih (by simpa using h)]

theorem all_bytes {p : Nat → Bool} (h : ((List.range 256).all p) = true) (c : UInt8) : p c.toNat = true :=
  List.all_eq_true.1 h c.toNat (by have := c.toNat_lt; simp; omega)

/-- A kept byte is none of those that part or end a segment, and is printable. -/
theorem keep_plain (c : UInt8) (h : keep c = true) : 32 < c.toNat ∧ c.toNat < 127 ∧ c.toNat ≠ 37 ∧ c.toNat ≠ 47 ∧ c.toNat ≠ 63 ∧ c.toNat ≠ 35 ∧ c.toNat ≠ 59 ∧ c.toNat ≠ 44 := by
  have := all_bytes (p := fun n => !keepN n || decide (32 < n ∧ n < 127 ∧ n ≠ 37 ∧ n ≠ 47 ∧ n ≠ 63 ∧ n ≠ 35 ∧ n ≠ 59 ∧ n ≠ 44)) (by decide +kernel) c
  unfold keep at h
  simpa [h] using this

theorem hexd_toNat (n : Nat) (h : n < 16) : (hexd n).toNat = hexN n := by
  unfold hexd
  rw [UInt8.toNat_ofNat']
  exact Nat.mod_eq_of_lt (by unfold hexN; split <;> omega)
theorem hexN_range (n : Nat) (h : n < 16) : (48 ≤ hexN n ∧ hexN n ≤ 57 ∧ hexN n = 48 + n ∧ n < 10) ∨ (65 ≤ hexN n ∧ hexN n ≤ 70 ∧ hexN n = 55 + n ∧ 10 ≤ n) := by
  unfold hexN; split <;> omega

theorem hi_lt (c : UInt8) : c.toNat / 16 < 16 := by have := c.toNat_lt; omega
theorem lo_lt (c : UInt8) : c.toNat % 16 < 16 := by omega

/-- No slash stands in an escaped segment. -/
theorem slash_not_mem (l : List UInt8) : ∀ x ∈ esc l, x.toNat ≠ 47 := by
  induction l with
  | nil => intro x hx; cases hx
  | cons c l ih =>
    intro x hx
    rcases List.mem_append.1 (show x ∈ esc1 c ++ esc l from hx) with h | h
    · unfold esc1 at h
      split at h
      · rename_i hk
        simp at h; subst h
        exact (keep_plain x hk).2.2.2.1
      · simp at h
        rcases h with rfl | rfl | rfl
        · decide
        · rw [hexd_toNat _ (hi_lt c)]; have := hexN_range _ (hi_lt c); omega
        · rw [hexd_toNat _ (lo_lt c)]; have := hexN_range _ (lo_lt c); omega
    · exact ih x h

theorem toNat_inj' {a b : UInt8} (h : a.toNat = b.toNat) : a = b := UInt8.toNat_inj.1 h

/-- Escaping can be undone. -/
theorem esc_inj : ∀ (a b : List UInt8), esc a = esc b → a = b
  | [], [], _ => rfl
  | [], c :: l, h => by
    have := congrArg List.length h
    rw [esc_len, esc_len] at this
    simp only [List.length_nil, List.length_cons, cnt] at this
    omega
  | c :: l, [], h => by
    have := congrArg List.length h
    rw [esc_len, esc_len] at this
    simp only [List.length_nil, List.length_cons, cnt] at this
    omega
  | c :: a, d :: b, h => by
    have h' : esc1 c ++ esc a = esc1 d ++ esc b := h
    unfold esc1 at h'
    cases hc : keep c <;> cases hd : keep d <;> simp only [hc, hd, if_true, if_false, List.cons_append, List.nil_append, List.cons.injEq, Bool.false_eq_true] at h'
    · obtain ⟨_, h1, h2, h3⟩ := h'
      have e1 := congrArg UInt8.toNat h1
      have e2 := congrArg UInt8.toNat h2
      rw [hexd_toNat _ (hi_lt c), hexd_toNat _ (hi_lt d)] at e1
      rw [hexd_toNat _ (lo_lt c), hexd_toNat _ (lo_lt d)] at e2
      have a1 := hexN_range _ (hi_lt c)
      have a2 := hexN_range _ (hi_lt d)
      have a3 := hexN_range _ (lo_lt c)
      have a4 := hexN_range _ (lo_lt d)
      have : c = d := toNat_inj' (by omega)
      rw [this, esc_inj a b h3]
    · exact absurd (congrArg UInt8.toNat h'.1) (fun e => (keep_plain d hd).2.2.1 (by rw [← e]; rfl))
    · exact absurd (congrArg UInt8.toNat h'.1) (fun e => (keep_plain c hc).2.2.1 (by rw [e]; rfl))
    · rw [h'.1, esc_inj a b h'.2]

/-- Up to the first slash two such texts agree. -/
theorem cut_slash : ∀ (a b x y : List UInt8), (∀ u ∈ a, u.toNat ≠ 47) → (∀ u ∈ b, u.toNat ≠ 47) → a ++ 47 :: x = b ++ 47 :: y → a = b ∧ x = y
  | [], [], x, y, _, _, h => by simpa using h
  | [], c :: b, x, y, _, hb, h => by
    simp at h
    exact absurd (by rw [← h.1]; rfl) (hb c (by simp))
  | c :: a, [], x, y, ha, _, h => by
    simp at h
    exact absurd (by rw [h.1]; rfl) (ha c (by simp))
  | c :: a, d :: b, x, y, ha, hb, h => by
    simp only [List.cons_append, List.cons.injEq] at h
    obtain ⟨e1, e2⟩ := cut_slash a b x y (fun u hu => ha u (by simp [hu])) (fun u hu => hb u (by simp [hu])) h.2
    exact ⟨by rw [h.1, e1], e2⟩

/-- The two constants of a worker's path. -/
def preL : List UInt8 := [47, 118, 49, 47, 99, 111, 110, 115, 117, 109, 101, 114, 115, 47]
def midL : List UInt8 := [47, 119, 111, 114, 107, 101, 114, 115, 47]
def pathL (c n call : List UInt8) : List UInt8 := preL ++ (esc c ++ (midL ++ (esc n ++ call)))

theorem path_inj (c n c2 n2 call : List UInt8) (h : pathL c n call = pathL c2 n2 call) : c = c2 ∧ n = n2 := by
  unfold pathL at h
  have h1 := List.append_cancel_left h
  have h2 : esc c ++ 47 :: ([119, 111, 114, 107, 101, 114, 115, 47] ++ (esc n ++ call)) = esc c2 ++ 47 :: ([119, 111, 114, 107, 101, 114, 115, 47] ++ (esc n2 ++ call)) := h1
  obtain ⟨e1, e2⟩ := cut_slash _ _ _ _ (slash_not_mem c) (slash_not_mem c2) h2
  exact ⟨esc_inj _ _ e1, esc_inj _ _ (List.append_cancel_right (List.append_cancel_left e2))⟩
end Go.Proofs.Qxb6614257aDoor
