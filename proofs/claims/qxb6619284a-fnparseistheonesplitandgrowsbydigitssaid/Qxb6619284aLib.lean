/-
  The walks of the library's functions on the road: strings.HasPrefix, TrimPrefix, CutPrefix (each is straight).
-/
import Derived.Test.Qxb6619284aWalks
namespace Go.Proofs.Qxb6619284a.Lb
open Go.RowKit
open Pl Wk
set_option linter.unusedVariables false

theorem cut_is (s p : ByteArray) (v : Bool) (hv : prefB s p = v) : ((s.extract 0 p.size).toList == p.toList) = v := by
  rw [ByteArray.toList_eq, ByteArray.toList_eq, data_head, pref_take, hv]

theorem hasPrefix19 (s p : ByteArray) (v : Bool) (hs : s.size ≤ maxLen) (hp : p.size ≤ maxLen) (hv : Hid (prefB s p = v)) (w : World) :
    Calls Try.prog 19 #[.string s, .string p] w fun e w' => e = .returned (.bool v) ∧ w' = w := by
  unfold maxLen at hs hp
  by_cases h : p.size ≤ s.size
  · have hi : (p.size : Int) ≤ (s.size : Int) := by omega
    have hc := cut_is s p v hv.out
    go_enter Try.func19, Try.ntmps19
    go_wp2
    go_ret
    exact ⟨rfl, rfl⟩
  · have hn : ¬ (p.size : Int) ≤ (s.size : Int) := by omega
    have hf : Hid (v = false) := by rw [← hv.out]; exact pref_long s p (by omega)
    go_enter Try.func19, Try.ntmps19
    go_wp2
    go_ret
    exact ⟨ret_bool hf.out.symm, rfl⟩

theorem hasPrefix (s p : ByteArray) (v : Bool) (hs : s.size ≤ maxLen) (hp : p.size ≤ maxLen) (hv : Hid (prefB s p = v)) (w : World) :
    Calls Try.prog 16 #[.string s, .string p] w fun e w' => e = .returned (.bool v) ∧ w' = w := by
  go_enter Try.func16, Try.ntmps16
  go_wp2_with (go_at_call 19; refine (hasPrefix19 _ _ _ hs hp hv _).mono ?_; rintro e w' ⟨rfl, rfl⟩)
  go_ret
  exact ⟨rfl, rfl⟩

theorem ret_str {a b : ByteArray} (h : a = b) : Ending.returned (.string a) = .returned (.string b) := by rw [h]
theorem ret_strb {a b : ByteArray} {c : Bool} (h : a = b) : Ending.returned (.tuple #[.string a, .bool c]) = .returned (.tuple #[.string b, .bool c]) := by rw [h]
theorem rest_is (s p t : ByteArray) (ht : t.data.toList = s.data.toList.drop p.size) : s.extract p.size s.size = t := ba_ext (by rw [data_rest, ht])

theorem trimPrefix20 (s p t : ByteArray) (hs : s.size ≤ maxLen) (hp : p.size ≤ maxLen) (hv : Hid (prefB s p = true)) (ht : Hid (t.data.toList = s.data.toList.drop p.size)) (w : World) :
    Calls Try.prog 20 #[.string s, .string p] w fun e w' => e = .returned (.string t) ∧ w' = w := by
  have hi : (p.size : Int) ≤ (s.size : Int) := by have := pref_le s p hv.out; omega
  have hi' : p.size ≤ s.size := pref_le s p hv.out
  go_enter Try.func20, Try.ntmps20
  go_wp2_with (go_at_call 19; refine (hasPrefix19 _ _ _ hs hp hv _).mono ?_; rintro e w' ⟨rfl, rfl⟩)
  go_ret
  exact ⟨ret_str (rest_is s p t ht.out), rfl⟩

theorem trimPrefix (s p t : ByteArray) (hs : s.size ≤ maxLen) (hp : p.size ≤ maxLen) (hv : Hid (prefB s p = true)) (ht : Hid (t.data.toList = s.data.toList.drop p.size)) (w : World) :
    Calls Try.prog 17 #[.string s, .string p] w fun e w' => e = .returned (.string t) ∧ w' = w := by
  go_enter Try.func17, Try.ntmps17
  go_wp2_with (go_at_call 20; refine (trimPrefix20 _ _ _ hs hp hv ht _).mono ?_; rintro e w' ⟨rfl, rfl⟩)
  go_ret
  exact ⟨rfl, rfl⟩

theorem cutPrefix18_yes (s p t : ByteArray) (hs : s.size ≤ maxLen) (hp : p.size ≤ maxLen) (hv : Hid (prefB s p = true)) (ht : Hid (t.data.toList = s.data.toList.drop p.size)) (w : World) :
    Calls Try.prog 18 #[.string s, .string p] w fun e w' => e = .returned (.tuple #[.string t, .bool true]) ∧ w' = w := by
  have hi : (p.size : Int) ≤ (s.size : Int) := by have := pref_le s p hv.out; omega
  have hi' : p.size ≤ s.size := pref_le s p hv.out
  go_enter Try.func18, Try.ntmps18
  go_wp2_with (go_at_call 19; refine (hasPrefix19 _ _ _ hs hp hv _).mono ?_; rintro e w' ⟨rfl, rfl⟩)
  go_ret2
  exact ⟨ret_strb (rest_is s p t ht.out), rfl⟩

theorem cutPrefix18_no (s p : ByteArray) (hs : s.size ≤ maxLen) (hp : p.size ≤ maxLen) (hv : Hid (prefB s p = false)) (w : World) :
    Calls Try.prog 18 #[.string s, .string p] w fun e w' => e = .returned (.tuple #[.string s, .bool false]) ∧ w' = w := by
  go_enter Try.func18, Try.ntmps18
  go_wp2_with (go_at_call 19; refine (hasPrefix19 _ _ _ hs hp hv _).mono ?_; rintro e w' ⟨rfl, rfl⟩)
  go_ret2
  exact ⟨rfl, rfl⟩

theorem cutPrefix_yes (s p t : ByteArray) (hs : s.size ≤ maxLen) (hp : p.size ≤ maxLen) (hv : Hid (prefB s p = true)) (ht : Hid (t.data.toList = s.data.toList.drop p.size)) (w : World) :
    Calls Try.prog 15 #[.string s, .string p] w fun e w' => e = .returned (.tuple #[.string t, .bool true]) ∧ w' = w := by
  go_enter Try.func15, Try.ntmps15
  go_wp2_with (go_at_call 18; refine (cutPrefix18_yes _ _ _ hs hp hv ht _).mono ?_; rintro e w' ⟨rfl, rfl⟩)
  go_ret2
  exact ⟨rfl, rfl⟩

theorem cutPrefix_no (s p : ByteArray) (hs : s.size ≤ maxLen) (hp : p.size ≤ maxLen) (hv : Hid (prefB s p = false)) (w : World) :
    Calls Try.prog 15 #[.string s, .string p] w fun e w' => e = .returned (.tuple #[.string s, .bool false]) ∧ w' = w := by
  go_enter Try.func15, Try.ntmps15
  go_wp2_with (go_at_call 18; refine (cutPrefix18_no _ _ hs hp hv _).mono ?_; rintro e w' ⟨rfl, rfl⟩)
  go_ret2
  exact ⟨rfl, rfl⟩
end Go.Proofs.Qxb6619284a.Lb
