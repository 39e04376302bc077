/-
  The proof of 'Rows.FnParseIsTheOneSplitAndGrowsByDigitsSaid'. The frame is the guide's shell (its last step by 'Below' in the place of 'Grown': the road makes memory); the walks are ours.
-/
import Derived.Test.Qxb6619284aRows
import Derived.WalkKit
import Derived.ProofKit
import Derived.OpenShut
import Derived.ShutString
import Derived.Test.Qxb6619284aLink
namespace Go.Proofs.Qxb6619284a.fnParseIsTheOneSplitAndGrowsByDigits
open Go.ChangeShapes Go.WideShapes Go.ChangeAt Go.RowKit
open Go.ChangeMaps (open_string shut_string)
open Pl Wk Lb Ps Zz Lk
set_option linter.unusedVariables false      -- a walk need not use every 'w<i>' (that an integer argument fits its kind)

theorem own : ownKnob Try.prog.godebug = none := by kernel_rfl


/-- zzBytes of two strings. -/
def fits2 (a b : Nat) : Bool := decide (a + b ≤ 1048576)
set_option maxHeartbeats 1000000 in
theorem bytes9 (a b : ByteArray) (w : World) (ha : a.size ≤ maxLen) (hb : b.size ≤ maxLen) :
    Calls Try.prog 9 #[.string a, .string b] w fun e w' => e = .returned (.bool (fits2 a.size b.size)) ∧ w' = w := by
  unfold maxLen at ha hb
  by_cases h1 : a.size ≤ 1048576
  · by_cases h2 : b.size ≤ 1048576
    · by_cases h3 : a.size + b.size ≤ 1048576
      · go_enter Try.func9, Try.ntmps9
        go_wp2
        go_ret
        exact ⟨ret_bool (by simp [fits2]; omega), rfl⟩
      · go_enter Try.func9, Try.ntmps9
        go_wp2
        go_ret
        exact ⟨ret_bool (by simp [fits2]; omega), rfl⟩
    · go_enter Try.func9, Try.ntmps9
      go_wp2
      go_ret
      exact ⟨ret_bool (by simp [fits2]; omega), rfl⟩
  · go_enter Try.func9, Try.ntmps9
    go_wp2
    go_ret
    exact ⟨ret_bool (by simp [fits2]; omega), rfl⟩

/-- Together more than 1 MiB: true at once. -/
theorem walk_far (a b : ByteArray) (ha : a.size ≤ maxLen) (hb : b.size ≤ maxLen) (hs : 1048576 < a.size + b.size) (w : World) :
    Calls Try.prog 4 #[.string a, .string b] w fun e w' => e = .returned (.bool true) ∧ Below w.heap.size w w' := by
  have hf : fits2 a.size b.size = false := by simp [fits2]; omega
  go_enter Try.func4, Try.ntmps4
  go_wp2_with (go_at_call 9; refine (bytes9 _ _ _ ha hb).mono ?_; rintro e w' ⟨rfl, rfl⟩)
  go_ret
  exact ⟨rfl, Below.refl _ _⟩

set_option maxRecDepth 100000 in
set_option maxHeartbeats 4000000 in
/-- The name is refused. -/
theorem walk_no (a b : ByteArray) (hs : a.size + b.size ≤ 1048576) (h10 : Hid (∀ w, P10 a w 0 ⟨#[]⟩ ⟨#[]⟩ false)) (h11 : Hid (∀ w, P11 a w 0 ⟨#[]⟩ ⟨#[]⟩ false)) (w : World) :
    Calls Try.prog 4 #[.string a, .string b] w fun e w' => e = .returned (.bool true) ∧ Below w.heap.size w w' := by
  have hf : fits2 a.size b.size = true := by simp [fits2]; omega
  have ha : a.size ≤ maxLen := by unfold maxLen; omega
  have hb : b.size ≤ maxLen := by unfold maxLen; omega
  go_enter Try.func4, Try.ntmps4
  go_wp2_with (go_at_call 9; refine (bytes9 _ _ _ ha hb).mono ?_; rintro e w' ⟨rfl, rfl⟩)
  refine (h10.out _).mono ?_
  rintro e w1 ⟨rfl, hb1⟩
  go_wp2_with fail
  refine (h11.out _).mono ?_
  rintro e w2 ⟨rfl, hb2⟩
  go_wp2
  go_ret
  exact ⟨rfl, hb1.trans (hb2.mono hb1.size)⟩

set_option maxRecDepth 100000 in
set_option maxHeartbeats 4000000 in
theorem walk_ga (a b M m : ByteArray) (hs : a.size + b.size ≤ 1048576) (hM : M.size ≤ 1048576) (hm : m.size ≤ 1048576) (h10 : Hid (∀ w, P10 a w 2 M m true)) (h11 : Hid (∀ w, P11 a w 2 M m true))
    (h12 : Hid (∀ w, P10 (a ++ b) w 2 (M ++ b) ⟨#[]⟩ true)) (hdg : Hid (allD b.data.toList = true)) (w : World) :
    Calls Try.prog 4 #[.string a, .string b] w fun e w' => e = .returned (.bool true) ∧ Below w.heap.size w w' := by
  have hf : fits2 a.size b.size = true := by simp [fits2]; omega
  have ha : a.size ≤ maxLen := by unfold maxLen; omega
  have hb : b.size ≤ maxLen := by unfold maxLen; omega
  have hz1 : M.size + b.size ≤ 2097152 := by omega
  have hz2 : m.size + b.size ≤ 2097152 := by omega
  go_enter Try.func4, Try.ntmps4
  go_wp2_with (go_at_call 9; refine (bytes9 _ _ _ ha hb).mono ?_; rintro e w' ⟨rfl, rfl⟩)
  refine (h10.out _).mono ?_
  rintro e w1 ⟨rfl, hb1⟩
  go_wp2_with fail
  refine (h11.out _).mono ?_
  rintro e w2 ⟨rfl, hb2⟩
  go_wp2_with fail
  refine (h12.out _).mono ?_
  rintro e w3 ⟨rfl, hb3⟩
  go_wp2_with (go_at_call 7; refine (allDigits_v _ _ hb hdg.out _).mono ?_; rintro e w' ⟨rfl, rfl⟩)
  go_ret
  exact ⟨rfl, (hb1.trans (hb2.mono hb1.size)).trans (hb3.mono (Nat.le_trans hb1.size hb2.size))⟩

set_option maxRecDepth 100000 in
set_option maxHeartbeats 4000000 in
theorem walk_ga_not (a b M m : ByteArray) (hs : a.size + b.size ≤ 1048576) (hM : M.size ≤ 1048576) (hm : m.size ≤ 1048576) (T2 : Int) (M2 m2 : ByteArray) (ok2 : Bool) (h10 : Hid (∀ w, P10 a w 2 M m true)) (h11 : Hid (∀ w, P11 a w 2 M m true))
    (h12 : Hid (∀ w, P10 (a ++ b) w T2 M2 m2 ok2)) (hdg : Hid (allD b.data.toList = false)) (w : World) :
    Calls Try.prog 4 #[.string a, .string b] w fun e w' => e = .returned (.bool true) ∧ Below w.heap.size w w' := by
  have hf : fits2 a.size b.size = true := by simp [fits2]; omega
  have ha : a.size ≤ maxLen := by unfold maxLen; omega
  have hb : b.size ≤ maxLen := by unfold maxLen; omega
  have hz1 : M.size + b.size ≤ 2097152 := by omega
  have hz2 : m.size + b.size ≤ 2097152 := by omega
  go_enter Try.func4, Try.ntmps4
  go_wp2_with (go_at_call 9; refine (bytes9 _ _ _ ha hb).mono ?_; rintro e w' ⟨rfl, rfl⟩)
  refine (h10.out _).mono ?_
  rintro e w1 ⟨rfl, hb1⟩
  go_wp2_with fail
  refine (h11.out _).mono ?_
  rintro e w2 ⟨rfl, hb2⟩
  go_wp2_with fail
  refine (h12.out _).mono ?_
  rintro e w3 ⟨rfl, hb3⟩
  go_wp2_with (go_at_call 7; refine (allDigits_v _ _ hb hdg.out _).mono ?_; rintro e w' ⟨rfl, rfl⟩)
  go_ret
  exact ⟨rfl, (hb1.trans (hb2.mono hb1.size)).trans (hb3.mono (Nat.le_trans hb1.size hb2.size))⟩

set_option maxRecDepth 100000 in
set_option maxHeartbeats 4000000 in
theorem walk_beta (a b M m : ByteArray) (hs : a.size + b.size ≤ 1048576) (hM : M.size ≤ 1048576) (hm : m.size ≤ 1048576) (h10 : Hid (∀ w, P10 a w 1 M m true)) (h11 : Hid (∀ w, P11 a w 1 M m true))
    (h12 : Hid (∀ w, P10 (a ++ b) w 1 M (m ++ b) true)) (hdg : Hid (allD b.data.toList = true)) (w : World) :
    Calls Try.prog 4 #[.string a, .string b] w fun e w' => e = .returned (.bool true) ∧ Below w.heap.size w w' := by
  have hf : fits2 a.size b.size = true := by simp [fits2]; omega
  have ha : a.size ≤ maxLen := by unfold maxLen; omega
  have hb : b.size ≤ maxLen := by unfold maxLen; omega
  have hz1 : M.size + b.size ≤ 2097152 := by omega
  have hz2 : m.size + b.size ≤ 2097152 := by omega
  go_enter Try.func4, Try.ntmps4
  go_wp2_with (go_at_call 9; refine (bytes9 _ _ _ ha hb).mono ?_; rintro e w' ⟨rfl, rfl⟩)
  refine (h10.out _).mono ?_
  rintro e w1 ⟨rfl, hb1⟩
  go_wp2_with fail
  refine (h11.out _).mono ?_
  rintro e w2 ⟨rfl, hb2⟩
  go_wp2_with fail
  refine (h12.out _).mono ?_
  rintro e w3 ⟨rfl, hb3⟩
  go_wp2_with (go_at_call 7; refine (allDigits_v _ _ hb hdg.out _).mono ?_; rintro e w' ⟨rfl, rfl⟩)
  go_ret
  exact ⟨rfl, (hb1.trans (hb2.mono hb1.size)).trans (hb3.mono (Nat.le_trans hb1.size hb2.size))⟩

set_option maxRecDepth 100000 in
set_option maxHeartbeats 4000000 in
theorem walk_beta_not (a b M m : ByteArray) (hs : a.size + b.size ≤ 1048576) (hM : M.size ≤ 1048576) (hm : m.size ≤ 1048576) (h10 : Hid (∀ w, P10 a w 1 M m true)) (h11 : Hid (∀ w, P11 a w 1 M m true))
    (h12 : Hid (∀ w, P10 (a ++ b) w 0 ⟨#[]⟩ ⟨#[]⟩ false)) (hdg : Hid (allD b.data.toList = false)) (w : World) :
    Calls Try.prog 4 #[.string a, .string b] w fun e w' => e = .returned (.bool true) ∧ Below w.heap.size w w' := by
  have hf : fits2 a.size b.size = true := by simp [fits2]; omega
  have ha : a.size ≤ maxLen := by unfold maxLen; omega
  have hb : b.size ≤ maxLen := by unfold maxLen; omega
  have hz1 : M.size + b.size ≤ 2097152 := by omega
  have hz2 : m.size + b.size ≤ 2097152 := by omega
  go_enter Try.func4, Try.ntmps4
  go_wp2_with (go_at_call 9; refine (bytes9 _ _ _ ha hb).mono ?_; rintro e w' ⟨rfl, rfl⟩)
  refine (h10.out _).mono ?_
  rintro e w1 ⟨rfl, hb1⟩
  go_wp2_with fail
  refine (h11.out _).mono ?_
  rintro e w2 ⟨rfl, hb2⟩
  go_wp2_with fail
  refine (h12.out _).mono ?_
  rintro e w3 ⟨rfl, hb3⟩
  go_wp2_with (go_at_call 7; refine (allDigits_v _ _ hb hdg.out _).mono ?_; rintro e w' ⟨rfl, rfl⟩)
  go_ret
  exact ⟨rfl, (hb1.trans (hb2.mono hb1.size)).trans (hb3.mono (Nat.le_trans hb1.size hb2.size))⟩

set_option maxRecDepth 100000 in
set_option maxHeartbeats 4000000 in
theorem walk_alpha (a b M m : ByteArray) (hs : a.size + b.size ≤ 1048576) (hM : M.size ≤ 1048576) (hm : m.size ≤ 1048576) (h10 : Hid (∀ w, P10 a w 0 M m true)) (h11 : Hid (∀ w, P11 a w 0 M m true))
    (h12 : Hid (∀ w, P10 (a ++ b) w 0 M (m ++ b) true)) (hdg : Hid (allD b.data.toList = true)) (w : World) :
    Calls Try.prog 4 #[.string a, .string b] w fun e w' => e = .returned (.bool true) ∧ Below w.heap.size w w' := by
  have hf : fits2 a.size b.size = true := by simp [fits2]; omega
  have ha : a.size ≤ maxLen := by unfold maxLen; omega
  have hb : b.size ≤ maxLen := by unfold maxLen; omega
  have hz1 : M.size + b.size ≤ 2097152 := by omega
  have hz2 : m.size + b.size ≤ 2097152 := by omega
  go_enter Try.func4, Try.ntmps4
  go_wp2_with (go_at_call 9; refine (bytes9 _ _ _ ha hb).mono ?_; rintro e w' ⟨rfl, rfl⟩)
  refine (h10.out _).mono ?_
  rintro e w1 ⟨rfl, hb1⟩
  go_wp2_with fail
  refine (h11.out _).mono ?_
  rintro e w2 ⟨rfl, hb2⟩
  go_wp2_with fail
  refine (h12.out _).mono ?_
  rintro e w3 ⟨rfl, hb3⟩
  go_wp2_with (go_at_call 7; refine (allDigits_v _ _ hb hdg.out _).mono ?_; rintro e w' ⟨rfl, rfl⟩)
  go_ret
  exact ⟨rfl, (hb1.trans (hb2.mono hb1.size)).trans (hb3.mono (Nat.le_trans hb1.size hb2.size))⟩

set_option maxRecDepth 100000 in
set_option maxHeartbeats 4000000 in
theorem walk_alpha_not (a b M m : ByteArray) (hs : a.size + b.size ≤ 1048576) (hM : M.size ≤ 1048576) (hm : m.size ≤ 1048576) (h10 : Hid (∀ w, P10 a w 0 M m true)) (h11 : Hid (∀ w, P11 a w 0 M m true))
    (h12 : Hid (∀ w, P10 (a ++ b) w 0 ⟨#[]⟩ ⟨#[]⟩ false)) (hdg : Hid (allD b.data.toList = false)) (w : World) :
    Calls Try.prog 4 #[.string a, .string b] w fun e w' => e = .returned (.bool true) ∧ Below w.heap.size w w' := by
  have hf : fits2 a.size b.size = true := by simp [fits2]; omega
  have ha : a.size ≤ maxLen := by unfold maxLen; omega
  have hb : b.size ≤ maxLen := by unfold maxLen; omega
  have hz1 : M.size + b.size ≤ 2097152 := by omega
  have hz2 : m.size + b.size ≤ 2097152 := by omega
  go_enter Try.func4, Try.ntmps4
  go_wp2_with (go_at_call 9; refine (bytes9 _ _ _ ha hb).mono ?_; rintro e w' ⟨rfl, rfl⟩)
  refine (h10.out _).mono ?_
  rintro e w1 ⟨rfl, hb1⟩
  go_wp2_with fail
  refine (h11.out _).mono ?_
  rintro e w2 ⟨rfl, hb2⟩
  go_wp2_with fail
  refine (h12.out _).mono ?_
  rintro e w3 ⟨rfl, hb3⟩
  go_wp2_with (go_at_call 7; refine (allDigits_v _ _ hb hdg.out _).mono ?_; rintro e w' ⟨rfl, rfl⟩)
  go_ret
  exact ⟨rfl, (hb1.trans (hb2.mono hb1.size)).trans (hb3.mono (Nat.le_trans hb1.size hb2.size))⟩

theorem split4 (l : List UInt8) : ∃ (T : Int) (M m : ByteArray) (ok : Bool), parseL l = (T, M.data.toList, m.data.toList, ok) :=
  ⟨(parseL l).1, ⟨(parseL l).2.1.toArray⟩, ⟨(parseL l).2.2.1.toArray⟩, (parseL l).2.2.2, rfl⟩
theorem rest_len (l x y : List UInt8) (T : Int) (h : parseL l = (T, x, y, true)) : x.length ≤ l.length ∧ y.length ≤ l.length := by
  obtain ⟨h1, h2⟩ := parse_ok _ _ _ _ h
  obtain ⟨hM, hx, h3⟩ := rest_ok _ _ _ _ _ h2
  have e1 := tw_len (l.drop 1)
  have e2 := dw_len (l.drop 1)
  rw [List.length_drop] at e1 e2
  refine ⟨by rw [← hx]; omega, ?_⟩
  rcases h3 with ⟨_, _, hy⟩ | ⟨_, _, _, hy, _⟩ | ⟨_, _, _, hy, _⟩
  · rw [hy]; simp
  · rw [← hy, List.length_drop]; omega
  · rw [← hy, List.length_drop]; omega

/-! ### STEP 1: THE WALK: the Go text returns true. 'Grown w w'': the world has at most new blocks (Derived/RowKit3.lean). Part the cases AHEAD of 'go_enter' where a test parts the walk; take each callee by a contract of your own. -/
theorem walk (a0 : ByteArray) (a1 : ByteArray) (w0 : a0.size ≤ maxLen) (w1 : a1.size ≤ maxLen) (w : World) :
    Calls Try.prog 4 #[.string a0, .string a1] w fun e w' => e = .returned (.bool true) ∧ Below w.heap.size w w' := by
  by_cases hs : a0.size + a1.size ≤ 1048576
  · obtain ⟨T, M, m, ok, hp⟩ := split4 a0.data.toList
    have h10 : Hid (∀ w, P10 a0 w T M m ok) := ZZparse_all a0 w0 T M m ok hp
    have h11 : Hid (∀ w, P11 a0 w T M m ok) := model_all a0 (by omega) T M m ok hp
    have hab : (a0 ++ a1).size ≤ maxLen := by unfold maxLen; simp; omega
    cases ok
    · obtain ⟨rfl, e1, e2⟩ := parse_no _ _ _ _ hp
      obtain rfl := empty_of e1
      obtain rfl := empty_of e2
      exact walk_no a0 a1 hs h10 h11 w
    · have hl := rest_len _ _ _ _ hp
      rw [size_data, size_data, size_data] at hl
      have hM : M.size ≤ 1048576 := by omega
      have hm : m.size ≤ 1048576 := by omega
      have htr := parse_track _ _ _ _ hp
      cases hdg : allD a1.data.toList
      · rcases htr with rfl | rfl | rfl
        · have hg := grow_pre _ a1.data.toList _ _ _ (by decide) hp
          rw [hdg, if_neg (by simp), ← data_append] at hg
          exact walk_alpha_not a0 a1 M m hs hM hm h10 h11 (fun w => ZZparse_all (a0 ++ a1) hab 0 ⟨#[]⟩ ⟨#[]⟩ false hg w) hdg w
        · have hg := grow_pre _ a1.data.toList _ _ _ (by decide) hp
          rw [hdg, if_neg (by simp), ← data_append] at hg
          exact walk_beta_not a0 a1 M m hs hM hm h10 h11 (fun w => ZZparse_all (a0 ++ a1) hab 0 ⟨#[]⟩ ⟨#[]⟩ false hg w) hdg w
        · obtain ⟨T2, M2, m2, ok2, hp2⟩ := split4 (a0 ++ a1).data.toList
          exact walk_ga_not a0 a1 M m hs hM hm T2 M2 m2 ok2 h10 h11 (fun w => ZZparse_all (a0 ++ a1) hab T2 M2 m2 ok2 hp2 w) hdg w
      · rcases htr with rfl | rfl | rfl
        · have hg := grow_pre _ a1.data.toList _ _ _ (by decide) hp
          rw [hdg, if_pos rfl, ← data_append, ← data_append] at hg
          exact walk_alpha a0 a1 M m hs hM hm h10 h11 (fun w => ZZparse_all (a0 ++ a1) hab _ _ _ _ hg w) hdg w
        · have hg := grow_pre _ a1.data.toList _ _ _ (by decide) hp
          rw [hdg, if_pos rfl, ← data_append, ← data_append] at hg
          exact walk_beta a0 a1 M m hs hM hm h10 h11 (fun w => ZZparse_all (a0 ++ a1) hab _ _ _ _ hg w) hdg w
        · have hg := grow_ga _ a1.data.toList _ _ hp hdg
          rw [← data_append, ← data_append] at hg
          exact walk_ga a0 a1 M m hs hM hm h10 h11 (fun w => ZZparse_all (a0 ++ a1) hab 2 (M ++ a1) ⟨#[]⟩ true hg w) hdg w
  · exact walk_far a0 a1 w0 w1 (by omega) w

/-! ### THE ROW's STEP: WRITTEN OUT: LEAVE IT -/
set_option maxRecDepth 100000 in
theorem lifted (os : Os) (started : os.Started) (H : Type) (enc : TypeId × Value → H) :
    ReturnsInHanded {} Try.checked os 4 .any (Rows.fnParseIsTheOneSplitAndGrowsByDigitsSpec.pre6 enc Try.prog Try.f4 Rows.fnParseIsTheOneSplitAndGrowsByDigitsRow.domain false) (Rows.fnParseIsTheOneSplitAndGrowsByDigitsSpec.post enc Try.prog Try.f4 false true false false) := by
  refine returnsInHanded_of_change (C := Try.checked) own started (by kernel_rfl) Try.func4
    (ChangeSpec.witness6 (enc := enc) (C := Try.checked) false ⟨#[], #[.string ByteArray.empty, .string ByteArray.empty], []⟩ 8 (by kernel_rfl) (by kernel_rfl) (by kernel_rfl) (by kernel_rfl)) ?_
  intro W base args ds gs before hval0 hW hcnd _
  have hval : ∀ (j : Nat) t v, Try.f4.params[j]? = some t → args[j]? = some v → Value.okWide Try.prog W .any base t v := hval0
  have hW' := hW
  obtain ⟨p, q, hA0, hV, rfl, hfz, hnd⟩ := hW
  have hA : DataW.TrodAll enc Try.prog W 0 (fun _ => true) true Try.f4.params.toList args.toList ds p := hA0
  rw [Try.params4] at hA hval
  obtain ⟨v0, vs0, d0, ds0, p0, q0, hargs, rfl, rfl, h0, r0⟩ := trodAll_cons hA
  obtain ⟨v1, vs1, d1, ds1, p1, q1, rfl, rfl, rfl, h1, r1⟩ := trodAll_cons r0
  obtain ⟨rfl, rfl, rfl⟩ := trodAll_nil r1
  obtain rfl : args = #[v0, v1] := by cases args; simp_all
  obtain ⟨rfl, rfl⟩ := trodVars_none hV
  obtain ⟨a0, rfl, rfl, rfl, w0⟩ := open_string Try.underlying9 (hval 0 9 v0 rfl rfl) h0
  obtain ⟨a1, rfl, rfl, rfl, w1⟩ := open_string Try.underlying9 (hval 1 9 v1 rfl rfl) h1
  clear hA0 hval0
  refine (walk a0 a1 w0 w1 W).mono fun e W' ⟨he, bel⟩ => ?_
  subst he
  exact ⟨_, rfl, _, _, _, [], _, [], hW', trodAll_mk1 (shut_bool Try.underlying4 _), (trodAll_cons_mk (shut_string Try.underlying9 w0) (trodAll_cons_mk (shut_string Try.underlying9 w1) trodAll_mk0)), rfl, bel.frame _, fun h => by cases h⟩

theorem over : Rows.fnParseIsTheOneSplitAndGrowsByDigitsRow.holds Try.pinned (OpenSpec.ofChange Rows.fnParseIsTheOneSplitAndGrowsByDigitsSpec) :=
  OpenClaim.holds_of_wide 4 Try.f4 rfl rfl rfl rfl rfl rfl rfl ⟨rfl, rfl, rfl, rfl, rfl⟩ rfl rfl rfl rfl rfl (by kernel_rfl) Try.func4 (by kernel_rfl)
    (of_decide_eq_true (by kernel_rfl)) (by unfold Func.isWrapper; first | (rw [if_pos (by decide +kernel)]; kernel_rfl) | (rw [if_neg (by decide +kernel)]; exact ⟨rfl, rfl⟩))
    (fun os started H enc _ => lifted os started H enc)

/-- ████ THE STATEMENT ████ -/
theorem proved : Rows.FnParseIsTheOneSplitAndGrowsByDigitsSaid :=
  over
end Go.Proofs.Qxb6619284a.fnParseIsTheOneSplitAndGrowsByDigits
