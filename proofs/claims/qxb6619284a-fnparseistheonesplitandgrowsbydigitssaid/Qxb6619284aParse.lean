/-
  The walks of parse and ZZparse.
-/
import Derived.Test.Qxb6619284aLib
namespace Go.Proofs.Qxb6619284a.Ps
open Go.RowKit
open Pl Wk Lb
set_option linter.unusedVariables false

theorem below_drewN' {B : Nat} {a w : World} (h : Below B a w) (n : Nat) : Below B a (w.drewN n) := ⟨h.os, h.tape, h.output, h.size, h.block⟩

theorem below3 (w : World) (o : Obj) (n : Nat) (a b c : Value) : Below w.heap.size w (((((w.alloc o).drewN n).setCell ⟨w.heap.size, 0, none⟩ a).setCell ⟨w.heap.size, 1, none⟩ b).setCell ⟨w.heap.size, 2, none⟩ c) :=
  (((below_drewN' ((Below.refl _ _).alloc (Nat.le_refl _) _) n).setCell (Nat.le_refl _) a).setCell (Nat.le_refl _) b).setCell (Nat.le_refl _) c

def P13 (s : ByteArray) (w : World) (T : Int) (M m : ByteArray) (ok : Bool) : Prop :=
    Calls Try.prog 13 #[.string s] w fun e w' => e = .returned (.tuple #[.agg #[.int .i64 T, .string M, .string m], .bool ok]) ∧ Below w.heap.size w w'

set_option maxHeartbeats 1000000 in
theorem p_no (s d r : ByteArray) (hs : s.size ≤ maxLen) (h : Hid (prefB s ⟨#[118]⟩ = false)) (hd : Hid (d.data.toList = tw s.data.toList)) (hr : Hid (r.data.toList = dw s.data.toList)) (w : World) :
    P13 s w 0 ⟨#[]⟩ ⟨#[]⟩ false := by
  have h1 : (⟨#[118]⟩ : ByteArray).size ≤ maxLen := by decide
  unfold P13
  go_enter Try.func13, Try.ntmps13
  go_wp2_with (first
    | (go_at_call 15; refine (cutPrefix_no _ _ hs h1 h _).mono ?_; rintro e w' ⟨rfl, rfl⟩)
    | (go_at_call 12; refine (cutDigits _ _ _ _ hs hd hr).mono ?_; rintro e w' ⟨rfl, n, rfl⟩))
  exact bodyPost_ret (v := .tuple #[.agg #[.int .i64 0, .string ⟨#[]⟩, .string ⟨#[]⟩], .bool false]) (by simp [results, Try.results13, go_sem]) rfl ⟨rfl, below3 w _ _ _ _ _⟩

set_option maxHeartbeats 2000000 in
theorem p_nodig (s t M r : ByteArray) (hs : s.size ≤ maxLen) (h : Hid (prefB s ⟨#[118]⟩ = true)) (ht : Hid (t.data.toList = s.data.toList.drop 1)) (hts : t.size ≤ maxLen)
    (hM : Hid (M.data.toList = tw t.data.toList)) (hr : Hid (r.data.toList = dw t.data.toList)) (hz : M.size = 0) (w : World) :
    P13 s w 0 ⟨#[]⟩ ⟨#[]⟩ false := by
  have k1 : (⟨#[118]⟩ : ByteArray).size ≤ maxLen := by decide
  have k2 : (⟨#[98, 101, 116, 97]⟩ : ByteArray).size ≤ maxLen := by decide
  have k3 : (⟨#[97, 108, 112, 104, 97]⟩ : ByteArray).size ≤ maxLen := by decide
  have e1 := isEmpty_yes M hz
  clear hz
  unfold P13
  go_enter Try.func13, Try.ntmps13
  go_wp2_with (first
    | (go_at_call 15; refine (cutPrefix_yes _ _ _ hs k1 h ht _).mono ?_; rintro e w' ⟨rfl, rfl⟩)
    | (go_at_call_of 12 (Value.string t); refine (cutDigits _ _ _ _ hts hM hr).mono ?_; rintro e w' ⟨rfl, n, rfl⟩))
  exact bodyPost_ret (v := .tuple #[.agg #[.int .i64 0, .string ⟨#[]⟩, .string ⟨#[]⟩], .bool false]) (by simp [results, Try.results13, go_sem]) rfl ⟨rfl, below3 w _ _ _ _ _⟩

set_option maxHeartbeats 2000000 in
theorem p_ga (s t M r : ByteArray) (hs : s.size ≤ maxLen) (h : Hid (prefB s ⟨#[118]⟩ = true)) (ht : Hid (t.data.toList = s.data.toList.drop 1)) (hts : t.size ≤ maxLen)
    (hM : Hid (M.data.toList = tw t.data.toList)) (hr : Hid (r.data.toList = dw t.data.toList)) (hz : 0 < M.size) (hz2 : r.size = 0) (w : World) :
    P13 s w 2 M ⟨#[]⟩ true := by
  have k1 : (⟨#[118]⟩ : ByteArray).size ≤ maxLen := by decide
  have k2 : (⟨#[98, 101, 116, 97]⟩ : ByteArray).size ≤ maxLen := by decide
  have k3 : (⟨#[97, 108, 112, 104, 97]⟩ : ByteArray).size ≤ maxLen := by decide
  have e1 := isEmpty_no M hz
  have e2 := isEmpty_yes r hz2
  clear hz2
  unfold P13
  go_enter Try.func13, Try.ntmps13
  go_wp2_with (first
    | (go_at_call 15; refine (cutPrefix_yes _ _ _ hs k1 h ht _).mono ?_; rintro e w' ⟨rfl, rfl⟩)
    | (go_at_call_of 12 (Value.string t); refine (cutDigits _ _ _ _ hts hM hr).mono ?_; rintro e w' ⟨rfl, n, rfl⟩))
  exact bodyPost_ret (v := .tuple #[.agg #[.int .i64 2, .string M, .string ⟨#[]⟩], .bool true]) (by simp [results, Try.results13, go_sem]) rfl ⟨rfl, below3 w _ _ _ _ _⟩

set_option maxHeartbeats 2000000 in
theorem p_neither (s t M r : ByteArray) (hs : s.size ≤ maxLen) (h : Hid (prefB s ⟨#[118]⟩ = true)) (ht : Hid (t.data.toList = s.data.toList.drop 1)) (hts : t.size ≤ maxLen)
    (hM : Hid (M.data.toList = tw t.data.toList)) (hr : Hid (r.data.toList = dw t.data.toList)) (hz : 0 < M.size) (hz2 : 0 < r.size) (hrs : r.size ≤ maxLen) (hb : Hid (prefB r ⟨#[98, 101, 116, 97]⟩ = false)) (ha : Hid (prefB r ⟨#[97, 108, 112, 104, 97]⟩ = false)) (w : World) :
    P13 s w 0 ⟨#[]⟩ ⟨#[]⟩ false := by
  have k1 : (⟨#[118]⟩ : ByteArray).size ≤ maxLen := by decide
  have k2 : (⟨#[98, 101, 116, 97]⟩ : ByteArray).size ≤ maxLen := by decide
  have k3 : (⟨#[97, 108, 112, 104, 97]⟩ : ByteArray).size ≤ maxLen := by decide
  have e1 := isEmpty_no M hz
  have e2 := isEmpty_no r hz2
  unfold P13
  go_enter Try.func13, Try.ntmps13
  go_wp2_with (first
    | (go_at_call 15; refine (cutPrefix_yes _ _ _ hs k1 h ht _).mono ?_; rintro e w' ⟨rfl, rfl⟩)
    | (go_at_call_of 12 (Value.string t); refine (cutDigits _ _ _ _ hts hM hr).mono ?_; rintro e w' ⟨rfl, n, rfl⟩)
    | (go_at_call_of 16 (Value.string ⟨#[98, 101, 116, 97]⟩); refine (hasPrefix _ _ _ hrs k2 hb _).mono ?_; rintro e w' ⟨rfl, rfl⟩)
    | (go_at_call_of 16 (Value.string ⟨#[97, 108, 112, 104, 97]⟩); refine (hasPrefix _ _ _ hrs k3 ha _).mono ?_; rintro e w' ⟨rfl, rfl⟩))
  exact bodyPost_ret (v := .tuple #[.agg #[.int .i64 0, .string ⟨#[]⟩, .string ⟨#[]⟩], .bool false]) (by simp [results, Try.results13, go_sem]) rfl ⟨rfl, below3 w _ _ _ _ _⟩

set_option maxHeartbeats 2000000 in
theorem p_beta_bad1 (s t M r q m e : ByteArray) (hs : s.size ≤ maxLen) (h : Hid (prefB s ⟨#[118]⟩ = true)) (ht : Hid (t.data.toList = s.data.toList.drop 1)) (hts : t.size ≤ maxLen)
    (hM : Hid (M.data.toList = tw t.data.toList)) (hr : Hid (r.data.toList = dw t.data.toList)) (hz : 0 < M.size) (hz2 : 0 < r.size) (hrs : r.size ≤ maxLen) (ha : Hid (prefB r ⟨#[98, 101, 116, 97]⟩ = true)) (hq : Hid (q.data.toList = r.data.toList.drop 4)) (hqs : q.size ≤ maxLen) (hm : Hid (m.data.toList = tw q.data.toList)) (he : Hid (e.data.toList = dw q.data.toList)) (hz3 : m.size = 0) (w : World) :
    P13 s w 0 ⟨#[]⟩ ⟨#[]⟩ false := by
  have k1 : (⟨#[118]⟩ : ByteArray).size ≤ maxLen := by decide
  have k2 : (⟨#[98, 101, 116, 97]⟩ : ByteArray).size ≤ maxLen := by decide
  have k3 : (⟨#[97, 108, 112, 104, 97]⟩ : ByteArray).size ≤ maxLen := by decide
  have e1 := isEmpty_no M hz
  have e2 := isEmpty_no r hz2
  have e3 := isEmpty_yes m hz3
  clear hz3
  unfold P13
  go_enter Try.func13, Try.ntmps13
  go_wp2_with (first
    | (go_at_call 15; refine (cutPrefix_yes _ _ _ hs k1 h ht _).mono ?_; rintro e w' ⟨rfl, rfl⟩)
    | (go_at_call_of 12 (Value.string t); refine (cutDigits _ _ _ _ hts hM hr).mono ?_; rintro e w' ⟨rfl, n, rfl⟩)
    | (go_at_call_of 16 (Value.string ⟨#[98, 101, 116, 97]⟩); refine (hasPrefix _ _ _ hrs k2 ha _).mono ?_; rintro e w' ⟨rfl, rfl⟩)
    | (go_at_call 17; refine (trimPrefix _ _ _ hrs k2 ha hq _).mono ?_; rintro e w' ⟨rfl, rfl⟩)
    | (go_at_call_of 12 (Value.string q); refine (cutDigits _ _ _ _ hqs hm he).mono ?_; rintro e w' ⟨rfl, n, rfl⟩))
  exact bodyPost_ret (v := .tuple #[.agg #[.int .i64 0, .string ⟨#[]⟩, .string ⟨#[]⟩], .bool false]) (by simp [results, Try.results13, go_sem]) rfl ⟨rfl, below3 w _ _ _ _ _⟩

set_option maxHeartbeats 2000000 in
theorem p_beta_bad2 (s t M r q m e : ByteArray) (hs : s.size ≤ maxLen) (h : Hid (prefB s ⟨#[118]⟩ = true)) (ht : Hid (t.data.toList = s.data.toList.drop 1)) (hts : t.size ≤ maxLen)
    (hM : Hid (M.data.toList = tw t.data.toList)) (hr : Hid (r.data.toList = dw t.data.toList)) (hz : 0 < M.size) (hz2 : 0 < r.size) (hrs : r.size ≤ maxLen) (ha : Hid (prefB r ⟨#[98, 101, 116, 97]⟩ = true)) (hq : Hid (q.data.toList = r.data.toList.drop 4)) (hqs : q.size ≤ maxLen) (hm : Hid (m.data.toList = tw q.data.toList)) (he : Hid (e.data.toList = dw q.data.toList)) (hz3 : 0 < m.size) (hz4 : 0 < e.size) (w : World) :
    P13 s w 0 ⟨#[]⟩ ⟨#[]⟩ false := by
  have k1 : (⟨#[118]⟩ : ByteArray).size ≤ maxLen := by decide
  have k2 : (⟨#[98, 101, 116, 97]⟩ : ByteArray).size ≤ maxLen := by decide
  have k3 : (⟨#[97, 108, 112, 104, 97]⟩ : ByteArray).size ≤ maxLen := by decide
  have e1 := isEmpty_no M hz
  have e2 := isEmpty_no r hz2
  have e3 := isEmpty_no m hz3
  have e4 := isEmpty_no e hz4
  unfold P13
  go_enter Try.func13, Try.ntmps13
  go_wp2_with (first
    | (go_at_call 15; refine (cutPrefix_yes _ _ _ hs k1 h ht _).mono ?_; rintro e w' ⟨rfl, rfl⟩)
    | (go_at_call_of 12 (Value.string t); refine (cutDigits _ _ _ _ hts hM hr).mono ?_; rintro e w' ⟨rfl, n, rfl⟩)
    | (go_at_call_of 16 (Value.string ⟨#[98, 101, 116, 97]⟩); refine (hasPrefix _ _ _ hrs k2 ha _).mono ?_; rintro e w' ⟨rfl, rfl⟩)
    | (go_at_call 17; refine (trimPrefix _ _ _ hrs k2 ha hq _).mono ?_; rintro e w' ⟨rfl, rfl⟩)
    | (go_at_call_of 12 (Value.string q); refine (cutDigits _ _ _ _ hqs hm he).mono ?_; rintro e w' ⟨rfl, n, rfl⟩))
  exact bodyPost_ret (v := .tuple #[.agg #[.int .i64 0, .string ⟨#[]⟩, .string ⟨#[]⟩], .bool false]) (by simp [results, Try.results13, go_sem]) rfl ⟨rfl, below3 w _ _ _ _ _⟩

set_option maxHeartbeats 2000000 in
theorem p_beta_ok (s t M r q m e : ByteArray) (hs : s.size ≤ maxLen) (h : Hid (prefB s ⟨#[118]⟩ = true)) (ht : Hid (t.data.toList = s.data.toList.drop 1)) (hts : t.size ≤ maxLen)
    (hM : Hid (M.data.toList = tw t.data.toList)) (hr : Hid (r.data.toList = dw t.data.toList)) (hz : 0 < M.size) (hz2 : 0 < r.size) (hrs : r.size ≤ maxLen) (ha : Hid (prefB r ⟨#[98, 101, 116, 97]⟩ = true)) (hq : Hid (q.data.toList = r.data.toList.drop 4)) (hqs : q.size ≤ maxLen) (hm : Hid (m.data.toList = tw q.data.toList)) (he : Hid (e.data.toList = dw q.data.toList)) (hz3 : 0 < m.size) (hz4 : e.size = 0) (w : World) :
    P13 s w 1 M m true := by
  have k1 : (⟨#[118]⟩ : ByteArray).size ≤ maxLen := by decide
  have k2 : (⟨#[98, 101, 116, 97]⟩ : ByteArray).size ≤ maxLen := by decide
  have k3 : (⟨#[97, 108, 112, 104, 97]⟩ : ByteArray).size ≤ maxLen := by decide
  have e1 := isEmpty_no M hz
  have e2 := isEmpty_no r hz2
  have e3 := isEmpty_no m hz3
  have e4 := isEmpty_yes e hz4
  clear hz4
  unfold P13
  go_enter Try.func13, Try.ntmps13
  go_wp2_with (first
    | (go_at_call 15; refine (cutPrefix_yes _ _ _ hs k1 h ht _).mono ?_; rintro e w' ⟨rfl, rfl⟩)
    | (go_at_call_of 12 (Value.string t); refine (cutDigits _ _ _ _ hts hM hr).mono ?_; rintro e w' ⟨rfl, n, rfl⟩)
    | (go_at_call_of 16 (Value.string ⟨#[98, 101, 116, 97]⟩); refine (hasPrefix _ _ _ hrs k2 ha _).mono ?_; rintro e w' ⟨rfl, rfl⟩)
    | (go_at_call 17; refine (trimPrefix _ _ _ hrs k2 ha hq _).mono ?_; rintro e w' ⟨rfl, rfl⟩)
    | (go_at_call_of 12 (Value.string q); refine (cutDigits _ _ _ _ hqs hm he).mono ?_; rintro e w' ⟨rfl, n, rfl⟩))
  exact bodyPost_ret (v := .tuple #[.agg #[.int .i64 1, .string M, .string m], .bool true]) (by simp [results, Try.results13, go_sem]) rfl ⟨rfl, below3 w _ _ _ _ _⟩

set_option maxHeartbeats 2000000 in
theorem p_alpha_bad1 (s t M r q m e : ByteArray) (hs : s.size ≤ maxLen) (h : Hid (prefB s ⟨#[118]⟩ = true)) (ht : Hid (t.data.toList = s.data.toList.drop 1)) (hts : t.size ≤ maxLen)
    (hM : Hid (M.data.toList = tw t.data.toList)) (hr : Hid (r.data.toList = dw t.data.toList)) (hz : 0 < M.size) (hz2 : 0 < r.size) (hrs : r.size ≤ maxLen) (hb : Hid (prefB r ⟨#[98, 101, 116, 97]⟩ = false)) (ha : Hid (prefB r ⟨#[97, 108, 112, 104, 97]⟩ = true)) (hq : Hid (q.data.toList = r.data.toList.drop 5)) (hqs : q.size ≤ maxLen) (hm : Hid (m.data.toList = tw q.data.toList)) (he : Hid (e.data.toList = dw q.data.toList)) (hz3 : m.size = 0) (w : World) :
    P13 s w 0 ⟨#[]⟩ ⟨#[]⟩ false := by
  have k1 : (⟨#[118]⟩ : ByteArray).size ≤ maxLen := by decide
  have k2 : (⟨#[98, 101, 116, 97]⟩ : ByteArray).size ≤ maxLen := by decide
  have k3 : (⟨#[97, 108, 112, 104, 97]⟩ : ByteArray).size ≤ maxLen := by decide
  have e1 := isEmpty_no M hz
  have e2 := isEmpty_no r hz2
  have e3 := isEmpty_yes m hz3
  clear hz3
  unfold P13
  go_enter Try.func13, Try.ntmps13
  go_wp2_with (first
    | (go_at_call 15; refine (cutPrefix_yes _ _ _ hs k1 h ht _).mono ?_; rintro e w' ⟨rfl, rfl⟩)
    | (go_at_call_of 12 (Value.string t); refine (cutDigits _ _ _ _ hts hM hr).mono ?_; rintro e w' ⟨rfl, n, rfl⟩)
    | (go_at_call_of 16 (Value.string ⟨#[98, 101, 116, 97]⟩); refine (hasPrefix _ _ _ hrs k2 hb _).mono ?_; rintro e w' ⟨rfl, rfl⟩)
    | (go_at_call_of 16 (Value.string ⟨#[97, 108, 112, 104, 97]⟩); refine (hasPrefix _ _ _ hrs k3 ha _).mono ?_; rintro e w' ⟨rfl, rfl⟩)
    | (go_at_call 17; refine (trimPrefix _ _ _ hrs k3 ha hq _).mono ?_; rintro e w' ⟨rfl, rfl⟩)
    | (go_at_call_of 12 (Value.string q); refine (cutDigits _ _ _ _ hqs hm he).mono ?_; rintro e w' ⟨rfl, n, rfl⟩))
  exact bodyPost_ret (v := .tuple #[.agg #[.int .i64 0, .string ⟨#[]⟩, .string ⟨#[]⟩], .bool false]) (by simp [results, Try.results13, go_sem]) rfl ⟨rfl, below3 w _ _ _ _ _⟩

set_option maxHeartbeats 2000000 in
theorem p_alpha_bad2 (s t M r q m e : ByteArray) (hs : s.size ≤ maxLen) (h : Hid (prefB s ⟨#[118]⟩ = true)) (ht : Hid (t.data.toList = s.data.toList.drop 1)) (hts : t.size ≤ maxLen)
    (hM : Hid (M.data.toList = tw t.data.toList)) (hr : Hid (r.data.toList = dw t.data.toList)) (hz : 0 < M.size) (hz2 : 0 < r.size) (hrs : r.size ≤ maxLen) (hb : Hid (prefB r ⟨#[98, 101, 116, 97]⟩ = false)) (ha : Hid (prefB r ⟨#[97, 108, 112, 104, 97]⟩ = true)) (hq : Hid (q.data.toList = r.data.toList.drop 5)) (hqs : q.size ≤ maxLen) (hm : Hid (m.data.toList = tw q.data.toList)) (he : Hid (e.data.toList = dw q.data.toList)) (hz3 : 0 < m.size) (hz4 : 0 < e.size) (w : World) :
    P13 s w 0 ⟨#[]⟩ ⟨#[]⟩ false := by
  have k1 : (⟨#[118]⟩ : ByteArray).size ≤ maxLen := by decide
  have k2 : (⟨#[98, 101, 116, 97]⟩ : ByteArray).size ≤ maxLen := by decide
  have k3 : (⟨#[97, 108, 112, 104, 97]⟩ : ByteArray).size ≤ maxLen := by decide
  have e1 := isEmpty_no M hz
  have e2 := isEmpty_no r hz2
  have e3 := isEmpty_no m hz3
  have e4 := isEmpty_no e hz4
  unfold P13
  go_enter Try.func13, Try.ntmps13
  go_wp2_with (first
    | (go_at_call 15; refine (cutPrefix_yes _ _ _ hs k1 h ht _).mono ?_; rintro e w' ⟨rfl, rfl⟩)
    | (go_at_call_of 12 (Value.string t); refine (cutDigits _ _ _ _ hts hM hr).mono ?_; rintro e w' ⟨rfl, n, rfl⟩)
    | (go_at_call_of 16 (Value.string ⟨#[98, 101, 116, 97]⟩); refine (hasPrefix _ _ _ hrs k2 hb _).mono ?_; rintro e w' ⟨rfl, rfl⟩)
    | (go_at_call_of 16 (Value.string ⟨#[97, 108, 112, 104, 97]⟩); refine (hasPrefix _ _ _ hrs k3 ha _).mono ?_; rintro e w' ⟨rfl, rfl⟩)
    | (go_at_call 17; refine (trimPrefix _ _ _ hrs k3 ha hq _).mono ?_; rintro e w' ⟨rfl, rfl⟩)
    | (go_at_call_of 12 (Value.string q); refine (cutDigits _ _ _ _ hqs hm he).mono ?_; rintro e w' ⟨rfl, n, rfl⟩))
  exact bodyPost_ret (v := .tuple #[.agg #[.int .i64 0, .string ⟨#[]⟩, .string ⟨#[]⟩], .bool false]) (by simp [results, Try.results13, go_sem]) rfl ⟨rfl, below3 w _ _ _ _ _⟩

set_option maxHeartbeats 2000000 in
theorem p_alpha_ok (s t M r q m e : ByteArray) (hs : s.size ≤ maxLen) (h : Hid (prefB s ⟨#[118]⟩ = true)) (ht : Hid (t.data.toList = s.data.toList.drop 1)) (hts : t.size ≤ maxLen)
    (hM : Hid (M.data.toList = tw t.data.toList)) (hr : Hid (r.data.toList = dw t.data.toList)) (hz : 0 < M.size) (hz2 : 0 < r.size) (hrs : r.size ≤ maxLen) (hb : Hid (prefB r ⟨#[98, 101, 116, 97]⟩ = false)) (ha : Hid (prefB r ⟨#[97, 108, 112, 104, 97]⟩ = true)) (hq : Hid (q.data.toList = r.data.toList.drop 5)) (hqs : q.size ≤ maxLen) (hm : Hid (m.data.toList = tw q.data.toList)) (he : Hid (e.data.toList = dw q.data.toList)) (hz3 : 0 < m.size) (hz4 : e.size = 0) (w : World) :
    P13 s w 0 M m true := by
  have k1 : (⟨#[118]⟩ : ByteArray).size ≤ maxLen := by decide
  have k2 : (⟨#[98, 101, 116, 97]⟩ : ByteArray).size ≤ maxLen := by decide
  have k3 : (⟨#[97, 108, 112, 104, 97]⟩ : ByteArray).size ≤ maxLen := by decide
  have e1 := isEmpty_no M hz
  have e2 := isEmpty_no r hz2
  have e3 := isEmpty_no m hz3
  have e4 := isEmpty_yes e hz4
  clear hz4
  unfold P13
  go_enter Try.func13, Try.ntmps13
  go_wp2_with (first
    | (go_at_call 15; refine (cutPrefix_yes _ _ _ hs k1 h ht _).mono ?_; rintro e w' ⟨rfl, rfl⟩)
    | (go_at_call_of 12 (Value.string t); refine (cutDigits _ _ _ _ hts hM hr).mono ?_; rintro e w' ⟨rfl, n, rfl⟩)
    | (go_at_call_of 16 (Value.string ⟨#[98, 101, 116, 97]⟩); refine (hasPrefix _ _ _ hrs k2 hb _).mono ?_; rintro e w' ⟨rfl, rfl⟩)
    | (go_at_call_of 16 (Value.string ⟨#[97, 108, 112, 104, 97]⟩); refine (hasPrefix _ _ _ hrs k3 ha _).mono ?_; rintro e w' ⟨rfl, rfl⟩)
    | (go_at_call 17; refine (trimPrefix _ _ _ hrs k3 ha hq _).mono ?_; rintro e w' ⟨rfl, rfl⟩)
    | (go_at_call_of 12 (Value.string q); refine (cutDigits _ _ _ _ hqs hm he).mono ?_; rintro e w' ⟨rfl, n, rfl⟩))
  exact bodyPost_ret (v := .tuple #[.agg #[.int .i64 0, .string M, .string m], .bool true]) (by simp [results, Try.results13, go_sem]) rfl ⟨rfl, below3 w _ _ _ _ _⟩
end Go.Proofs.Qxb6619284a.Ps
