/-
  The walks of the shared functions: each Go function on the road returns what a plain function of Qxb6619274aPlain computes; the world is the old one.
-/
import Derived.Test.Qxb6619274aProg
import Derived.Test.Qxb6619274aPlain
import Derived.WalkKit
import Derived.ProofKit
import Derived.WalkLawsBesides
namespace Go.Proofs.Qxb6619274a.Wk
open Go.RowKit
open Pl

theorem ret_bool {a b : Bool} (h : a = b) : Ending.returned (.bool a) = .returned (.bool b) := by rw [h]
theorem isEmpty_yes (s : ByteArray) (h : s.size = 0) : s.toList.isEmpty = true := by
  rw [ByteArray.toList_eq, List.isEmpty_iff]; exact List.eq_nil_of_length_eq_zero (by rw [size_data]; exact h)
theorem isEmpty_no (s : ByteArray) (h : 0 < s.size) : s.toList.isEmpty = false := by
  rw [ByteArray.toList_eq]; exact nonempty s h

set_option maxHeartbeats 400000 in
theorem decimalByte (n : Int) (w : World) : Calls Try.prog 11 #[.int .u8 n] w fun e w' => e = .returned (.bool (digB n)) ∧ w' = w := by
  by_cases h1 : 48 ≤ n
  · by_cases h2 : n ≤ 57
    · go_enter Try.func11, Try.ntmps11
      go_wp2
      go_ret
      exact ⟨ret_bool (by simp [digB, h1, h2]), rfl⟩
    · go_enter Try.func11, Try.ntmps11
      go_wp2
      go_ret
      exact ⟨ret_bool (by simp [digB]; omega), rfl⟩
  · go_enter Try.func11, Try.ntmps11
    go_wp2
    go_ret
    exact ⟨ret_bool (by simp [digB]; omega), rfl⟩

set_option maxHeartbeats 400000 in
theorem isDigits (s : ByteArray) (w : World) (hs : s.size ≤ maxLen) :
    Calls Try.prog 16 #[.string s] w fun e w' => e = .returned (.bool (word digB s.data.toList)) ∧ w' = w := by
  unfold maxLen at hs
  by_cases hz : s.size = 0
  · have he := isEmpty_yes s hz
    have hw : Hid (word digB s.data.toList = false) := word_empty digB s hz
    go_enter Try.func16, Try.ntmps16
    go_wp2
    go_ret
    exact ⟨ret_bool hw.out.symm, rfl⟩
  · have hz' : 0 < s.size := by omega
    clear hz
    have he := isEmpty_no s hz'
    go_enter Try.func16, Try.ntmps16
    go_wp2
    go_loop [8] (fun i => ∃ k : Nat, k ≤ s.size ∧ i = .int .i64 k ∧ Hid (allP digB (s.data.toList.take k) = true)) (fun i => s.size - (intOf i).toNat)
    case atStart => exact ⟨0, Nat.zero_le _, rfl, allP_zero _ _⟩
    case round =>
      obtain ⟨k, hk, rfl, ha⟩ := hrel
      by_cases hlt : k < s.size
      · by_cases c1 : ((s[k].toNat : Nat) : Int) < 48
        · go_wp2
          go_ret
          exact ⟨ret_bool (word_all digB s hz' false (allP_no digB s k hlt (by simp [digB]; omega))).symm, rfl⟩
        · by_cases c2 : 57 < ((s[k].toNat : Nat) : Int)
          · go_wp2
            go_ret
            exact ⟨ret_bool (word_all digB s hz' false (allP_no digB s k hlt (by simp [digB]; omega))).symm, rfl⟩
          · go_wp2
            go_round
            case rel => exact ⟨k + 1, by omega, by go_num, allP_succ digB s k hlt ha.out (by simp [digB]; omega)⟩
            case measure => simp [intOf]; omega
      · go_wp2
        go_ret
        exact ⟨ret_bool (word_all digB s hz' true (allP_full digB s k (by omega) ha.out)).symm, rfl⟩

theorem ZZIsDigits (s : ByteArray) (w : World) (hs : s.size ≤ maxLen) :
    Calls Try.prog 10 #[.string s] w fun e w' => e = .returned (.bool (word digB s.data.toList)) ∧ w' = w := by
  go_enter Try.func10, Try.ntmps10
  go_wp2_with (go_at_call 16; refine (isDigits _ _ hs).mono ?_; rintro e w' ⟨rfl, rfl⟩)
  go_ret
  exact ⟨rfl, rfl⟩

set_option maxHeartbeats 1000000 in
theorem letterOrHyphen (n : Int) (w : World) : Calls Try.prog 15 #[.int .u8 n] w fun e w' => e = .returned (.bool (alB n)) ∧ w' = w := by
  by_cases h1 : 97 ≤ n
  · by_cases h2 : n ≤ 122
    · go_enter Try.func15, Try.ntmps15
      go_wp2
      go_ret
      exact ⟨ret_bool (by simp [alB, h1, h2]), rfl⟩
    · by_cases h3 : n ≤ 90
      · omega
      · have h5 : (n == 45) = false := by simp; omega
        have h6 : 65 ≤ n := by omega
        go_enter Try.func15, Try.ntmps15
        go_wp2
        go_ret
        exact ⟨ret_bool (by simp [alB]; omega), rfl⟩
  · by_cases h3 : 65 ≤ n
    · by_cases h4 : n ≤ 90
      · go_enter Try.func15, Try.ntmps15
        go_wp2
        go_ret
        exact ⟨ret_bool (by simp [alB]; omega), rfl⟩
      · have h5 : (n == 45) = false := by simp; omega
        go_enter Try.func15, Try.ntmps15
        go_wp2
        go_ret
        exact ⟨ret_bool (by simp [alB]; omega), rfl⟩
    · by_cases h5 : (n == 45) = true
      · go_enter Try.func15, Try.ntmps15
        go_wp2
        go_ret
        exact ⟨ret_bool (by simp [alB] at *; omega), rfl⟩
      · rw [Bool.not_eq_true] at h5
        go_enter Try.func15, Try.ntmps15
        go_wp2
        go_ret
        exact ⟨ret_bool (by simp [alB] at *; omega), rfl⟩

set_option maxHeartbeats 1000000 in
theorem identByte (n : Int) (w : World) : Calls Try.prog 8 #[.int .u8 n] w fun e w' => e = .returned (.bool (idB n)) ∧ w' = w := by
  cases hd : digB n
  · go_enter Try.func8, Try.ntmps8
    go_wp2_with (first | (go_at_call 11; refine (decimalByte _ _).mono ?_; rintro e w' ⟨rfl, rfl⟩) | (go_at_call 15; refine (letterOrHyphen _ _).mono ?_; rintro e w' ⟨rfl, rfl⟩))
    go_ret
    exact ⟨ret_bool (by rw [idB, hd]; rfl), rfl⟩
  · go_enter Try.func8, Try.ntmps8
    go_wp2_with (first | (go_at_call 11; refine (decimalByte _ _).mono ?_; rintro e w' ⟨rfl, rfl⟩) | (go_at_call 15; refine (letterOrHyphen _ _).mono ?_; rintro e w' ⟨rfl, rfl⟩))
    go_ret
    exact ⟨ret_bool (by rw [idB, hd]; rfl), rfl⟩

theorem classes (n : Int) : (48 ≤ n ∧ n ≤ 57) ∨ (97 ≤ n ∧ n ≤ 122) ∨ (65 ≤ n ∧ n ≤ 90) ∨ ((n ≤ 45 ∧ 45 ≤ n) ∧ (n == 45) = true) ∨ (n < 45 ∧ (n == 45) = false) ∨ ((45 < n ∧ n < 48) ∧ (n == 45) = false) ∨ ((57 < n ∧ n < 65) ∧ (n == 45) = false ∧ decide (n ≤ 57) = false) ∨ ((90 < n ∧ n < 97) ∧ (n == 45) = false ∧ decide (n ≤ 57) = false ∧ decide (n ≤ 90) = false) ∨ (122 < n ∧ (n == 45) = false ∧ decide (n ≤ 57) = false ∧ decide (n ≤ 90) = false ∧ decide (n ≤ 122) = false) := by
  simp only [beq_iff_eq, beq_eq_false_iff_ne, ne_eq, decide_eq_false_iff_not]; omega

theorem idB_yes (n : Int) (h : (48 ≤ n ∧ n ≤ 57) ∨ (97 ≤ n ∧ n ≤ 122) ∨ (65 ≤ n ∧ n ≤ 90) ∨ (n ≤ 45 ∧ 45 ≤ n)) : idB n = true := by
  simp [idB, digB, alB]; omega
theorem idB_no (n : Int) (h : n < 45 ∨ (45 < n ∧ n < 48) ∨ (57 < n ∧ n < 65) ∨ (90 < n ∧ n < 97) ∨ 122 < n) : idB n = false := by
  simp [idB, digB, alB]; omega

set_option maxHeartbeats 4000000 in
theorem isIdentifier (s : ByteArray) (w : World) (hs : s.size ≤ maxLen) :
    Calls Try.prog 14 #[.string s] w fun e w' => e = .returned (.bool (word idB s.data.toList)) ∧ w' = w := by
  unfold maxLen at hs
  by_cases hz : s.size = 0
  · have he := isEmpty_yes s hz
    have hw : Hid (word idB s.data.toList = false) := word_empty idB s hz
    go_enter Try.func14, Try.ntmps14
    go_wp2
    go_ret
    exact ⟨ret_bool hw.out.symm, rfl⟩
  · have hz' : 0 < s.size := by omega
    clear hz
    have he := isEmpty_no s hz'
    go_enter Try.func14, Try.ntmps14
    go_wp2
    go_loop [9] (fun i => ∃ k : Nat, k ≤ s.size ∧ i = .int .i64 k ∧ Hid (allP idB (s.data.toList.take k) = true)) (fun i => s.size - (intOf i).toNat)
    case atStart => exact ⟨0, Nat.zero_le _, rfl, allP_zero _ _⟩
    case round =>
      obtain ⟨k, hk, rfl, ha⟩ := hrel
      by_cases hlt : k < s.size
      · rcases classes ((s[k].toNat : Nat) : Int) with h | h | h | h | h | h | h | h | h
        iterate 4
          · obtain ⟨h1, h2⟩ := h
            go_wp2
            go_round
            case rel => exact ⟨k + 1, by omega, by go_num, allP_succ idB s k hlt ha.out (idB_yes _ (by omega))⟩
            case measure => simp [intOf]; omega
        all_goals
          first | obtain ⟨h1, h2, h3, h4, h5⟩ := h | obtain ⟨h1, h2, h3, h4⟩ := h | obtain ⟨h1, h2, h3⟩ := h | obtain ⟨h1, h2⟩ := h
          go_wp2
          go_ret
          exact ⟨ret_bool (word_all idB s hz' false (allP_no idB s k hlt (idB_no _ (by omega)))).symm, rfl⟩
      · go_wp2
        go_ret
        exact ⟨ret_bool (word_all idB s hz' true (allP_full idB s k (by omega) ha.out)).symm, rfl⟩

theorem ZZIsIdentifier (s : ByteArray) (w : World) (hs : s.size ≤ maxLen) :
    Calls Try.prog 7 #[.string s] w fun e w' => e = .returned (.bool (word idB s.data.toList)) ∧ w' = w := by
  go_enter Try.func7, Try.ntmps7
  go_wp2_with (go_at_call 14; refine (isIdentifier _ _ hs).mono ?_; rintro e w' ⟨rfl, rfl⟩)
  go_ret
  exact ⟨rfl, rfl⟩

set_option maxHeartbeats 1000000 in
theorem noLetterOrHyphen (s : ByteArray) (w : World) (hs : s.size ≤ maxLen) :
    Calls Try.prog 13 #[.string s] w fun e w' => e = .returned (.bool (allP (fun n => !alB n) s.data.toList)) ∧ w' = w := by
  unfold maxLen at hs
  go_enter Try.func13, Try.ntmps13
  go_wp2
  go_loop [3] (fun i => ∃ k : Nat, k ≤ s.size ∧ i = .int .i64 k ∧ Hid (allP (fun n => !alB n) (s.data.toList.take k) = true)) (fun i => s.size - (intOf i).toNat)
  case atStart => exact ⟨0, Nat.zero_le _, rfl, allP_zero _ _⟩
  case round =>
    obtain ⟨k, hk, rfl, ha⟩ := hrel
    by_cases hlt : k < s.size
    · cases hb : alB ((s[k].toNat : Nat) : Int)
      · go_wp2_with (go_at_call 15; refine (letterOrHyphen _ _).mono ?_; rintro e w' ⟨rfl, rfl⟩)
        go_round
        case rel => exact ⟨k + 1, by omega, by go_num, allP_succ _ s k hlt ha.out (by simp [hb])⟩
        case measure => simp [intOf]; omega
      · go_wp2_with (go_at_call 15; refine (letterOrHyphen _ _).mono ?_; rintro e w' ⟨rfl, rfl⟩)
        go_ret
        exact ⟨ret_bool (allP_no _ s k hlt (by simp [hb])).symm, rfl⟩
    · go_wp2
      go_ret
      exact ⟨ret_bool (allP_full _ s k (by omega) ha.out).symm, rfl⟩

/-- zzBytes of two strings: whatever it says, the world stands. -/
def fits2 (a b : Nat) : Bool := decide (a + b ≤ 1048576)
set_option maxHeartbeats 1000000 in
theorem bytes9 (a b : ByteArray) (w : World) (ha : a.size ≤ maxLen) (hb : b.size ≤ maxLen) :
    Calls Try.prog 9 #[.string a, .string b] w fun e w' => e = .returned (.bool (fits2 a.size b.size)) ∧ w' = w := by
  unfold maxLen at ha hb
  by_cases h1 : a.size ≤ 1048576
  · by_cases h2 : b.size ≤ 1048576
    · by_cases h3 : a.size + b.size ≤ 1048576
      · go_enter Try.func9, Try.ntmps9
        go_wp2
        go_ret
        exact ⟨ret_bool (by simp [fits2]; omega), rfl⟩
      · go_enter Try.func9, Try.ntmps9
        go_wp2
        go_ret
        exact ⟨ret_bool (by simp [fits2]; omega), rfl⟩
    · go_enter Try.func9, Try.ntmps9
      go_wp2
      go_ret
      exact ⟨ret_bool (by simp [fits2]; omega), rfl⟩
  · go_enter Try.func9, Try.ntmps9
    go_wp2
    go_ret
    exact ⟨ret_bool (by simp [fits2]; omega), rfl⟩
set_option maxHeartbeats 1000000 in
theorem bytes6 (a b : ByteArray) (w : World) (ha : a.size ≤ maxLen) (hb : b.size ≤ maxLen) :
    Calls Try.prog 6 #[.string a, .string b] w fun e w' => e = .returned (.bool (fits2 a.size b.size)) ∧ w' = w := by
  unfold maxLen at ha hb
  by_cases h1 : a.size ≤ 1048576
  · by_cases h2 : b.size ≤ 1048576
    · by_cases h3 : a.size + b.size ≤ 1048576
      · go_enter Try.func6, Try.ntmps6
        go_wp2
        go_ret
        exact ⟨ret_bool (by simp [fits2]; omega), rfl⟩
      · go_enter Try.func6, Try.ntmps6
        go_wp2
        go_ret
        exact ⟨ret_bool (by simp [fits2]; omega), rfl⟩
    · go_enter Try.func6, Try.ntmps6
      go_wp2
      go_ret
      exact ⟨ret_bool (by simp [fits2]; omega), rfl⟩
  · go_enter Try.func6, Try.ntmps6
    go_wp2
    go_ret
    exact ⟨ret_bool (by simp [fits2]; omega), rfl⟩
set_option maxHeartbeats 1000000 in
theorem bytes12 (a : ByteArray) (w : World) (ha : a.size ≤ maxLen) :
    Calls Try.prog 12 #[.string a] w fun e w' => e = .returned (.bool (fits2 a.size 0)) ∧ w' = w := by
  unfold maxLen at ha
  by_cases h1 : a.size ≤ 1048576
  · go_enter Try.func12, Try.ntmps12
    go_wp2
    go_ret
    exact ⟨ret_bool (by simp [fits2]; omega), rfl⟩
  · go_enter Try.func12, Try.ntmps12
    go_wp2
    go_ret
    exact ⟨ret_bool (by simp [fits2]; omega), rfl⟩
end Go.Proofs.Qxb6619274a.Wk
