/-
  The plain law of the seat: no Go in sight. Bytes are Int (0 .. 255) under their tests; a string is its list of bytes.
-/
namespace Go.Proofs.Qxb6619274a.Pl

def digB (n : Int) : Bool := decide (48 ≤ n) && decide (n ≤ 57)
def alB (n : Int) : Bool := decide (97 ≤ n) && decide (n ≤ 122) || decide (65 ≤ n) && decide (n ≤ 90) || n == 45
def idB (n : Int) : Bool := digB n || alB n
def allP (p : Int → Bool) (l : List UInt8) : Bool := l.all fun c => p (c.toNat : Int)
def word (p : Int → Bool) (l : List UInt8) : Bool := !l.isEmpty && allP p l

theorem take_snoc (s : ByteArray) (k : Nat) (h : k < s.size) : s.data.toList.take (k + 1) = s.data.toList.take k ++ [s[k]] := by
  rw [List.take_succ_eq_append_getElem (by simpa using h)]; rfl

theorem allP_zero (p : Int → Bool) (s : ByteArray) : allP p (s.data.toList.take 0) = true := by simp [allP]

theorem allP_succ (p : Int → Bool) (s : ByteArray) (k : Nat) (h : k < s.size) (h1 : allP p (s.data.toList.take k) = true) (h2 : p (s[k].toNat : Int) = true) :
    allP p (s.data.toList.take (k + 1)) = true := by
  rw [take_snoc s k h]
  unfold allP at *
  rw [List.all_append, h1]
  simp [h2]

theorem allP_full (p : Int → Bool) (s : ByteArray) (k : Nat) (h : s.size ≤ k) (h1 : allP p (s.data.toList.take k) = true) : allP p s.data.toList = true := by
  rw [List.take_of_length_le (by simpa using h)] at h1; exact h1

theorem allP_no (p : Int → Bool) (s : ByteArray) (k : Nat) (h : k < s.size) (h2 : p (s[k].toNat : Int) = false) : allP p s.data.toList = false := by
  unfold allP
  rw [List.all_eq_false]
  exact ⟨s[k], List.getElem_mem (by simpa using h), by simp [h2]⟩

theorem size_data (s : ByteArray) : s.data.toList.length = s.size := by simp
theorem word_empty (p : Int → Bool) (s : ByteArray) (h : s.size = 0) : word p s.data.toList = false := by
  have : s.data.toList = [] := List.eq_nil_of_length_eq_zero (by rw [size_data]; exact h)
  simp [word, this]
theorem nonempty (s : ByteArray) (h : 0 < s.size) : s.data.toList.isEmpty = false := by
  rw [Bool.eq_false_iff]; intro h'
  have h2 : s.data.toList.length = 0 := by rw [List.isEmpty_iff.1 h']; rfl
  rw [size_data] at h2; omega
theorem word_all (p : Int → Bool) (s : ByteArray) (h : 0 < s.size) (b : Bool) (h1 : allP p s.data.toList = b) : word p s.data.toList = b := by
  simp [word, nonempty s h, h1]

/-- The cut: a joined word is a word just where it is not empty and each part that is not empty is a word. -/
theorem word_append (p : Int → Bool) (a b : List UInt8) :
    word p (a ++ b) = ((!(a ++ b).isEmpty) && (a.isEmpty || word p a) && (b.isEmpty || word p b)) := by
  cases a <;> cases b <;> simp [word, allP]
  exact (Bool.and_assoc _ _ _).symm
theorem word_one (p : Int → Bool) (c : UInt8) : word p [c] = p (c.toNat : Int) := by simp [word, allP]

/-- Digits alone: an identifier without a letter or hyphen. -/
theorem dig_iff (n : Int) : digB n = (idB n && !alB n) := by
  unfold idB digB alB
  by_cases h1 : 48 ≤ n <;> by_cases h2 : n ≤ 57 <;> simp [h1, h2]
  all_goals omega
theorem word_dig (l : List UInt8) : word digB l = (word idB l && allP (fun n => !alB n) l) := by
  have h : allP digB l = (allP idB l && allP (fun n => !alB n) l) := by
    unfold allP
    induction l with
    | nil => rfl
    | cons c t ih => rw [List.all_cons, List.all_cons, List.all_cons, ih, dig_iff]; dsimp only; cases idB (c.toNat : Int) <;> cases alB (c.toNat : Int) <;> simp
  unfold word; rw [h, Bool.and_assoc]

/-! ### In the walks' own spelling -/
theorem data_append (a b : ByteArray) : (a ++ b).data.toList = a.data.toList ++ b.data.toList := by simp
theorem nil_of_size (a : ByteArray) (h : a.size = 0) : a.data.toList = [] := List.eq_nil_of_length_eq_zero (by rw [size_data]; exact h)
theorem join_nn (p : Int → Bool) (a b : ByteArray) (hA : 0 < a.size) (hB : 0 < b.size) : word p (a ++ b).data.toList = (word p a.data.toList && word p b.data.toList) := by
  rw [data_append, word_append, nonempty a hA, nonempty b hB]
  have : (a.data.toList ++ b.data.toList).isEmpty = false := by
    have h0 := nonempty a hA
    cases ha : a.data.toList with
    | nil => rw [ha] at h0; exact absurd h0 (by simp)
    | cons c t => rfl
  rw [this]; simp
theorem join_en (p : Int → Bool) (a b : ByteArray) (hA : a.size = 0) : word p (a ++ b).data.toList = word p b.data.toList := by
  rw [data_append, nil_of_size a hA, List.nil_append]
theorem join_ne (p : Int → Bool) (a b : ByteArray) (hB : b.size = 0) : word p (a ++ b).data.toList = word p a.data.toList := by
  rw [data_append, nil_of_size b hB, List.append_nil]
theorem join_ee (p : Int → Bool) (a b : ByteArray) (hA : a.size = 0) (hB : b.size = 0) : word p (a ++ b).data.toList = false := by
  rw [join_en p a b hA]; exact word_empty p b hB
theorem first_byte (p : Int → Bool) (a : ByteArray) (h : 0 < a.size) : word p (a.extract 0 1).data.toList = p ((a[0].toNat : Nat) : Int) := by
  have e : (a.extract 0 1).data.toList = [a[0]] := by
    have h2 : (a.extract 0 1).data.toList = a.data.toList.take 1 := by
      obtain ⟨⟨l⟩⟩ := a
      rw [ByteArray.data_extract]; simp
    rw [h2, take_snoc a 0 h]; rfl
  rw [e, word_one]
end Go.Proofs.Qxb6619274a.Pl
