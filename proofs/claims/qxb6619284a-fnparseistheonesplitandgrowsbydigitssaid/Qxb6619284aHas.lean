/-
  The walk of hasAt.
-/
import Derived.Test.Qxb6619284aWalks
namespace Go.Proofs.Qxb6619284a.Hs
open Go.RowKit
open Pl Wk
set_option linter.unusedVariables false

def hasL (s p : ByteArray) (k : Nat) : Bool := p.data.toList.isPrefixOf (s.data.toList.drop k)

theorem pre_take (x y : List UInt8) : x.isPrefixOf y = (x == y.take x.length) := by
  rw [Bool.eq_iff_iff, beq_iff_eq, List.isPrefixOf_iff_prefix, List.prefix_iff_eq_take]
theorem get_drop (s : ByteArray) (k j : Nat) (h : k + j < s.size) : (s.data.toList.drop k)[j]? = some s[k + j] := by
  rw [List.getElem?_drop]; exact Pl.get_at s (k + j) h
theorem has_long (s p : ByteArray) (k : Nat) (h : s.size < p.size + k) (hk : k ≤ s.size) : hasL s p k = false := by
  unfold hasL
  rw [Bool.eq_false_iff]
  intro h1
  have h2 := (List.isPrefixOf_iff_prefix.1 h1).length_le
  rw [List.length_drop, size_data, size_data] at h2
  omega
theorem has_zero (s p : ByteArray) (k : Nat) : p.data.toList.take 0 = (s.data.toList.drop k).take 0 := by simp
theorem has_step (s p : ByteArray) (k j : Nat) (h1 : k + j < s.size) (h2 : j < p.size) (h : p.data.toList.take j = (s.data.toList.drop k).take j)
    (he : (((s[k + j].toNat : Nat) : Int) != ((p[j].toNat : Nat) : Int)) = false) : p.data.toList.take (j + 1) = (s.data.toList.drop k).take (j + 1) := by
  have he' : s[k + j] = p[j] := by
    simp at he
    exact UInt8.toNat_inj.1 (by omega)
  rw [List.take_add_one, List.take_add_one, h, Pl.get_at p j h2, get_drop s k j h1, he']
theorem has_full (s p : ByteArray) (k j : Nat) (hj : p.size ≤ j) (h : p.data.toList.take j = (s.data.toList.drop k).take j) : hasL s p k = true := by
  unfold hasL
  rw [List.take_of_length_le (by simpa using hj)] at h
  rw [List.isPrefixOf_iff_prefix, h]
  exact List.take_prefix _ _
theorem has_miss (s p : ByteArray) (k j : Nat) (h1 : k + j < s.size) (h2 : j < p.size)
    (he : (((s[k + j].toNat : Nat) : Int) != ((p[j].toNat : Nat) : Int)) = true) : hasL s p k = false := by
  unfold hasL
  rw [Bool.eq_false_iff]
  intro h
  obtain ⟨t, ht⟩ := List.isPrefixOf_iff_prefix.1 h
  have e1 := get_drop s k j h1
  rw [← ht, List.getElem?_append_left (by rw [size_data]; exact h2), Pl.get_at p j h2] at e1
  simp at e1 he
  rw [e1] at he
  exact he rfl

set_option maxHeartbeats 1000000 in
theorem hasAt (s p : ByteArray) (k : Nat) (hs : s.size ≤ 1048576) (hp : p.size ≤ 1048576) (hk : k ≤ s.size) (w : World) :
    Calls Try.prog 14 #[.string s, .int .i64 (k : Int), .string p] w fun e w' => e = .returned (.bool (hasL s p k)) ∧ ∃ n, w' = w.drewN n := by
  have hkI : (0 : Int) ≤ (k : Int) := by omega
  by_cases hl : (s.size : Int) - (k : Int) < (p.size : Int)
  · have hlo : Hid (hasL s p k = false) := has_long s p k (by omega) hk
    go_enter Try.func14, Try.ntmps14
    go_wp2
    go_ret
    exact ⟨ret_bool hlo.out.symm, 0, rfl⟩
  · have hl' : k + p.size ≤ s.size := by omega
    go_enter Try.func14, Try.ntmps14
    go_wp2
    go_loopw [7] (fun i wr => ∃ j : Nat, j ≤ p.size ∧ i = .int .i64 j ∧ Hid (p.data.toList.take j = (s.data.toList.drop k).take j) ∧ ∃ n, wr = w.drewN n) (fun i _ => p.size - (intOf i).toNat)
    case atStart => exact ⟨0, Nat.zero_le _, rfl, has_zero s p k, 0, rfl⟩
    case round =>
      obtain ⟨j, hj, rfl, ha, n, rfl⟩ := hrel
      by_cases hlt : j < p.size
      · have b1 : k + j < s.size := by omega
        have b2 : (k : Int) + (j : Int) < (s.size : Int) := by omega
        have b0 : (0 : Int) ≤ (k : Int) + (j : Int) := by omega
        have b3 : (j : Int) < (p.size : Int) := by omega
        cases he : (((s[k + j].toNat : Nat) : Int) != ((p[j].toNat : Nat) : Int))
        · have Hs : Hid (p.data.toList.take (j + 1) = (s.data.toList.drop k).take (j + 1)) := has_step s p k j b1 hlt ha.out he
          go_wp2
          go_quiet (fail)
          go_wp2
          go_roundw
          case rel => exact ⟨j + 1, by omega, by go_num, Hs, _, rfl⟩
          case measure => simp [intOf]; omega
        · have Hs : Hid (hasL s p k = false) := has_miss s p k j b1 hlt he
          go_wp2
          go_quiet (fail)
          go_wp2
          go_ret
          exact ⟨ret_bool Hs.out.symm, n + nq, by rw [World.drewN_drewN]⟩
      · have Hs : Hid (hasL s p k = true) := has_full s p k j (by omega) ha.out
        go_wp2
        go_ret
        exact ⟨ret_bool Hs.out.symm, n, rfl⟩
theorem hasAt_v (s p : ByteArray) (k : Nat) (v : Bool) (hs : s.size ≤ 1048576) (hp : p.size ≤ 1048576) (hk : k ≤ s.size) (hv : hasL s p k = v) (w : World) :
    Calls Try.prog 14 #[.string s, .int .i64 (k : Int), .string p] w fun e w' => e = .returned (.bool v) ∧ ∃ n, w' = w.drewN n := by
  subst hv; exact hasAt s p k hs hp hk w
theorem hasAt_z (s p : ByteArray) (z : Int) (k : Nat) (v : Bool) (hz : z = (k : Int)) (hs : s.size ≤ 1048576) (hp : p.size ≤ 1048576) (hk : k ≤ s.size) (hv : hasL s p k = v) (w : World) :
    Calls Try.prog 14 #[.string s, .int .i64 z, .string p] w fun e w' => e = .returned (.bool v) ∧ ∃ n, w' = w.drewN n := by
  subst hz; exact hasAt_v s p k v hs hp hk hv w
end Go.Proofs.Qxb6619284a.Hs
