/-
  The walks of the functions of the cut: each Go function returns what a plain function of Qxb6619284aPlain computes.
-/
import Derived.Test.Qxb6619284aProg
import Derived.Test.Qxb6619284aPlain
import Derived.WalkKit
import Derived.ProofKit
import Derived.WalkLawsBesides
import Derived.BigQuiet
import Derived.Deep.QuietTactic
import Derived.Deep.RegionWith
namespace Go.Proofs.Qxb6619284a.Wk
open Go.RowKit
open Pl

theorem ret_bool {a b : Bool} (h : a = b) : Ending.returned (.bool a) = .returned (.bool b) := by rw [h]
theorem ret_str2 {a b c d : ByteArray} (h1 : a = c) (h2 : b = d) : Ending.returned (.tuple #[.string a, .string b]) = .returned (.tuple #[.string c, .string d]) := by rw [h1, h2]
theorem isEmpty_yes (s : ByteArray) (h : s.size = 0) : s.toList.isEmpty = true := by
  rw [ByteArray.toList_eq, nil_of_size s h]; rfl
theorem isEmpty_no (s : ByteArray) (h : 0 < s.size) : s.toList.isEmpty = false := by
  obtain ⟨t, ht⟩ := cons_of_size s h
  rw [ByteArray.toList_eq, ht]; rfl

set_option maxHeartbeats 400000 in
theorem isDigitByte (n : Int) (w : World) : Calls Try.prog 8 #[.int .u8 n] w fun e w' => e = .returned (.bool (digB n)) ∧ w' = w := by
  by_cases h1 : 48 ≤ n
  · by_cases h2 : n ≤ 57
    · go_enter Try.func8, Try.ntmps8
      go_wp2
      go_ret
      exact ⟨ret_bool (by simp [digB, h1, h2]), rfl⟩
    · go_enter Try.func8, Try.ntmps8
      go_wp2
      go_ret
      exact ⟨ret_bool (by simp [digB]; omega), rfl⟩
  · go_enter Try.func8, Try.ntmps8
    go_wp2
    go_ret
    exact ⟨ret_bool (by simp [digB]; omega), rfl⟩

theorem isDigitByte_v (n : Int) (v : Bool) (hv : digB n = v) (w : World) : Calls Try.prog 8 #[.int .u8 n] w fun e w' => e = .returned (.bool v) ∧ w' = w := by
  subst hv; exact isDigitByte n w

set_option maxHeartbeats 1000000 in
theorem allDigits (s : ByteArray) (w : World) (hs : s.size ≤ maxLen) :
    Calls Try.prog 7 #[.string s] w fun e w' => e = .returned (.bool (allD s.data.toList)) ∧ w' = w := by
  unfold maxLen at hs
  go_enter Try.func7, Try.ntmps7
  go_wp2
  go_loop [3] (fun i => ∃ k : Nat, k ≤ s.size ∧ i = .int .i64 k ∧ Hid ((s.data.toList.take k).all dC = true)) (fun i => s.size - (intOf i).toNat)
  case atStart => exact ⟨0, Nat.zero_le _, rfl, all_zero _⟩
  case round =>
    obtain ⟨k, hk, rfl, ha⟩ := hrel
    by_cases hlt : k < s.size
    · cases hb : digB ((s[k].toNat : Nat) : Int)
      · go_wp2_with (go_at_call 8; refine (isDigitByte_v _ _ hb _).mono ?_; rintro e w' ⟨rfl, rfl⟩)
        go_ret
        exact ⟨ret_bool (all_no s k hlt hb).symm, rfl⟩
      · go_wp2_with (go_at_call 8; refine (isDigitByte_v _ _ hb _).mono ?_; rintro e w' ⟨rfl, rfl⟩)
        go_round
        case rel => exact ⟨k + 1, by omega, by go_num, all_succ s k hlt ha.out hb⟩
        case measure => simp [intOf]; omega
    · go_wp2
      go_ret
      exact ⟨ret_bool (all_full s k (by omega) ha.out).symm, rfl⟩

theorem allDigits_v (s : ByteArray) (v : Bool) (hs : s.size ≤ maxLen) (hv : allD s.data.toList = v) (w : World) :
    Calls Try.prog 7 #[.string s] w fun e w' => e = .returned (.bool v) ∧ w' = w := by
  subst hv; exact allDigits s w hs

theorem cut_eq (s d r : ByteArray) (k : Nat) (hd : d.data.toList = tw s.data.toList) (hr : r.data.toList = dw s.data.toList)
    (h : tw s.data.toList = s.data.toList.take k ∧ dw s.data.toList = s.data.toList.drop k) : s.extract 0 k = d ∧ s.extract k s.size = r :=
  ⟨ba_ext (by rw [data_head, hd, h.1]), ba_ext (by rw [data_rest, hr, h.2])⟩

set_option maxHeartbeats 2000000 in
theorem cutDigits (s d r : ByteArray) (w : World) (hs : s.size ≤ maxLen) (hd : Hid (d.data.toList = tw s.data.toList)) (hr : Hid (r.data.toList = dw s.data.toList)) :
    Calls Try.prog 12 #[.string s] w fun e w' => e = .returned (.tuple #[.string d, .string r]) ∧ ∃ n, w' = w.drewN n := by
  unfold maxLen at hs
  go_enter Try.func12, Try.ntmps12
  go_wp2
  go_loop [4] (fun i => ∃ k : Nat, k ≤ s.size ∧ i = .int .i64 k ∧ Hid ((s.data.toList.take k).all dC = true)) (fun i => s.size - (intOf i).toNat)
  case atStart => exact ⟨0, Nat.zero_le _, rfl, all_zero _⟩
  case round =>
    obtain ⟨k, hk, rfl, ha⟩ := hrel
    have hkI : (k : Int) ≤ (s.size : Int) := by omega
    by_cases hlt : k < s.size
    · by_cases c1 : 48 ≤ ((s[k].toNat : Nat) : Int)
      · by_cases c2 : ((s[k].toNat : Nat) : Int) ≤ 57
        · go_wp2
          go_round
          case rel => exact ⟨k + 1, by omega, by go_num, all_succ s k hlt ha.out (by simp [digB]; omega)⟩
          case measure => simp [intOf]; omega
        · have hc := cut_eq s d r k hd.out hr.out (cut_stop s k hlt ha.out (by simp [digB]; omega))
          have H1 : Hid (s.extract 0 k = d) := hc.1
          have H2 : Hid (s.extract k s.size = r) := hc.2
          clear hc
          go_wp2
          go_quiet (fail)
          go_wp2
          go_ret2
          exact ⟨ret_str2 H1.out H2.out, _, rfl⟩
      · have hc := cut_eq s d r k hd.out hr.out (cut_stop s k hlt ha.out (by simp [digB]; omega))
        have H1 : Hid (s.extract 0 k = d) := hc.1
        have H2 : Hid (s.extract k s.size = r) := hc.2
        clear hc
        go_wp2
        go_quiet (fail)
        go_wp2
        go_ret2
        exact ⟨ret_str2 H1.out H2.out, _, rfl⟩
    · have hc := cut_eq s d r k hd.out hr.out (cut_end s k (by omega) ha.out)
      have H1 : Hid (s.extract 0 k = d) := hc.1
      have H2 : Hid (s.extract k s.size = r) := hc.2
      clear hc
      go_wp2
      go_quiet (fail)
      go_wp2
      go_ret2
      exact ⟨ret_str2 H1.out H2.out, _, rfl⟩

theorem ZZcutDigits (s d r : ByteArray) (w : World) (hs : s.size ≤ maxLen) (hd : Hid (d.data.toList = tw s.data.toList)) (hr : Hid (r.data.toList = dw s.data.toList)) :
    Calls Try.prog 6 #[.string s] w fun e w' => e = .returned (.tuple #[.string d, .string r]) ∧ ∃ n, w' = w.drewN n := by
  go_enter Try.func6, Try.ntmps6
  go_wp2_with (go_at_call 12; refine (cutDigits _ _ _ _ hs hd hr).mono ?_; rintro e w' ⟨rfl, n, rfl⟩)
  go_ret2
  exact ⟨rfl, _, rfl⟩
end Go.Proofs.Qxb6619284a.Wk
