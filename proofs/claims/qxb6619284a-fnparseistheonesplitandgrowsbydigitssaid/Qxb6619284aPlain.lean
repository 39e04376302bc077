/-
  The plain law of the seat: no Go in sight. A string is its list of bytes; a byte under a test is its number.
-/
namespace Go.Proofs.Qxb6619284a.Pl

def digB (n : Int) : Bool := decide (48 ≤ n) && decide (n ≤ 57)
def dC (c : UInt8) : Bool := digB (c.toNat : Int)
/-- the leading digits; what stands behind them -/
def tw (l : List UInt8) : List UInt8 := l.takeWhile dC
def dw (l : List UInt8) : List UInt8 := l.dropWhile dC

def allD (l : List UInt8) : Bool := l.all dC

theorem size_data (s : ByteArray) : s.data.toList.length = s.size := by simp
theorem ba_ext {a b : ByteArray} (h : a.data.toList = b.data.toList) : a = b := by
  obtain ⟨⟨x⟩⟩ := a
  obtain ⟨⟨y⟩⟩ := b
  simp at h
  rw [h]
theorem data_append (a b : ByteArray) : (a ++ b).data.toList = a.data.toList ++ b.data.toList := by simp
theorem data_extract (s : ByteArray) (i j : Nat) : (s.extract i j).data.toList = (s.data.toList.drop i).take (j - i) := by
  obtain ⟨⟨l⟩⟩ := s
  rw [ByteArray.data_extract]; simp [List.extract_eq_take_drop]
theorem data_head (s : ByteArray) (k : Nat) : (s.extract 0 k).data.toList = s.data.toList.take k := by
  rw [data_extract]; simp
theorem data_rest (s : ByteArray) (k : Nat) : (s.extract k s.size).data.toList = s.data.toList.drop k := by
  rw [data_extract]; exact List.take_of_length_le (by simp)
theorem take_snoc (s : ByteArray) (k : Nat) (h : k < s.size) : s.data.toList.take (k + 1) = s.data.toList.take k ++ [s[k]] := by
  rw [List.take_succ_eq_append_getElem (by simpa using h)]; rfl
theorem get_at (s : ByteArray) (k : Nat) (h : k < s.size) : s.data.toList[k]? = some s[k] := by
  rw [List.getElem?_eq_getElem (by simpa using h)]; rfl
theorem nil_of_size (a : ByteArray) (h : a.size = 0) : a.data.toList = [] := List.eq_nil_of_length_eq_zero (by rw [size_data]; exact h)
theorem cons_of_size (a : ByteArray) (h : 0 < a.size) : ∃ t, a.data.toList = a[0] :: t := by
  have h1 := get_at a 0 h
  cases hl : a.data.toList with
  | nil => rw [hl] at h1; simp at h1
  | cons c t => rw [hl] at h1; simp at h1; exact ⟨t, by rw [h1]⟩

theorem all_zero (s : ByteArray) : (s.data.toList.take 0).all dC = true := by simp
theorem all_succ (s : ByteArray) (k : Nat) (h : k < s.size) (h1 : (s.data.toList.take k).all dC = true) (h2 : digB (s[k].toNat : Int) = true) :
    (s.data.toList.take (k + 1)).all dC = true := by
  rw [take_snoc s k h, List.all_append, h1]
  simp [dC, h2]
theorem all_full (s : ByteArray) (k : Nat) (h : s.size ≤ k) (h1 : (s.data.toList.take k).all dC = true) : allD s.data.toList = true := by
  unfold allD
  rw [List.take_of_length_le (by simpa using h)] at h1; exact h1
theorem all_no (s : ByteArray) (k : Nat) (h : k < s.size) (h2 : digB (s[k].toNat : Int) = false) : allD s.data.toList = false := by
  unfold allD
  rw [List.all_eq_false]
  exact ⟨s[k], List.getElem_mem (by simpa using h), by simp [dC, h2]⟩

theorem tw_take (l : List UInt8) (k : Nat) (h1 : (l.take k).all dC = true) (h2 : ∀ c, l[k]? = some c → dC c = false) : tw l = l.take k ∧ dw l = l.drop k := by
  induction l generalizing k with
  | nil => simp [tw, dw]
  | cons c t ih =>
    cases k with
    | zero =>
      have := h2 c (by simp)
      simp [tw, dw, this]
    | succ k =>
      simp at h1
      have := ih k (by simp; exact h1.2) (by simpa using h2)
      simp [tw, dw] at this ⊢
      simp [h1.1, this]
theorem cut_end (s : ByteArray) (k : Nat) (h : s.size ≤ k) (h1 : (s.data.toList.take k).all dC = true) : tw s.data.toList = s.data.toList.take k ∧ dw s.data.toList = s.data.toList.drop k :=
  tw_take _ k h1 (fun c hc => by rw [List.getElem?_eq_none (by simpa using h)] at hc; cases hc)
theorem cut_stop (s : ByteArray) (k : Nat) (h : k < s.size) (h1 : (s.data.toList.take k).all dC = true) (h2 : digB (s[k].toNat : Int) = false) : tw s.data.toList = s.data.toList.take k ∧ dw s.data.toList = s.data.toList.drop k :=
  tw_take _ k h1 (fun c hc => by rw [get_at s k h] at hc; cases hc; exact h2)

/-! ### The law of the cut -/
theorem tw_dw (l : List UInt8) : tw l ++ dw l = l := List.takeWhile_append_dropWhile
theorem tw_all (l : List UInt8) : allD (tw l) = true := by simp [tw, allD, List.all_takeWhile]
theorem dw_head (l t : List UInt8) (c : UInt8) (h : dw l = c :: t) : dC c = false := by
  induction l with
  | nil => simp [dw] at h
  | cons x l ih =>
    unfold dw at h ih
    rw [List.dropWhile_cons] at h
    split at h
    · exact ih h
    · rename_i hx
      cases h; simpa using hx
theorem tw_append (a b : List UInt8) : tw (a ++ b) = if dw a = [] then tw a ++ tw b else tw a := by
  induction a with
  | nil => simp [tw, dw]
  | cons x l ih =>
    unfold tw dw at ih ⊢
    by_cases h : dC x = true
    · simp only [List.cons_append, List.takeWhile_cons, h, if_true, List.dropWhile_cons, ih]; split <;> simp
    · simp [h]
theorem dw_append (a b : List UInt8) : dw (a ++ b) = if dw a = [] then dw b else dw a ++ b := by
  induction a with
  | nil => simp [dw]
  | cons x l ih =>
    unfold dw at ih ⊢
    by_cases h : dC x = true
    · simp only [List.cons_append, h, if_true, List.dropWhile_cons, ih]
    · simp [h]

/-! ### Prefixes -/
def prefB (s p : ByteArray) : Bool := p.data.toList.isPrefixOf s.data.toList
theorem pref_long (s p : ByteArray) (h : s.size < p.size) : prefB s p = false := by
  unfold prefB
  rw [Bool.eq_false_iff]
  intro h1
  have := (List.isPrefixOf_iff_prefix.1 h1).length_le
  rw [size_data, size_data] at this
  omega
theorem pref_le (s p : ByteArray) (h : prefB s p = true) : p.size ≤ s.size := by
  have := (List.isPrefixOf_iff_prefix.1 h).length_le
  rwa [size_data, size_data] at this
theorem pref_take (s p : ByteArray) : (s.data.toList.take p.size == p.data.toList) = prefB s p := by
  unfold prefB
  rw [Bool.eq_iff_iff, beq_iff_eq, List.isPrefixOf_iff_prefix, List.prefix_iff_eq_take, size_data]
  exact eq_comm
end Go.Proofs.Qxb6619284a.Pl
