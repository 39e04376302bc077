/-
  The proof of 'Rows.FnCutDigitsJoinAtAnyCutSaid'. The frame is the guide's shell; the walks are ours.
-/
import Derived.Test.Qxb6619284aRows
import Derived.WalkKit
import Derived.ProofKit
import Derived.OpenShut
import Derived.ShutString
import Derived.Test.Qxb6619284aWalks
namespace Go.Proofs.Qxb6619284a.fnCutDigitsJoinAtAnyCut
open Go.ChangeShapes Go.WideShapes Go.ChangeAt Go.RowKit
open Go.ChangeMaps (open_string shut_string)
open Pl Wk
set_option linter.unusedVariables false      -- a walk need not use every 'w<i>' (that an integer argument fits its kind)

theorem own : ownKnob Try.prog.godebug = none := by kernel_rfl


theorem Grown_drewN {W w : World} (h : Grown W w) (n : Nat) : Grown W (w.drewN n) := h

/-- zzBytes of two strings. -/
def fits2 (a b : Nat) : Bool := decide (a + b ≤ 1048576)
set_option maxHeartbeats 1000000 in
theorem bytes5 (a b : ByteArray) (w : World) (ha : a.size ≤ maxLen) (hb : b.size ≤ maxLen) :
    Calls Try.prog 5 #[.string a, .string b] w fun e w' => e = .returned (.bool (fits2 a.size b.size)) ∧ w' = w := by
  unfold maxLen at ha hb
  by_cases h1 : a.size ≤ 1048576
  · by_cases h2 : b.size ≤ 1048576
    · by_cases h3 : a.size + b.size ≤ 1048576
      · go_enter Try.func5, Try.ntmps5
        go_wp2
        go_ret
        exact ⟨ret_bool (by simp [fits2]; omega), rfl⟩
      · go_enter Try.func5, Try.ntmps5
        go_wp2
        go_ret
        exact ⟨ret_bool (by simp [fits2]; omega), rfl⟩
    · go_enter Try.func5, Try.ntmps5
      go_wp2
      go_ret
      exact ⟨ret_bool (by simp [fits2]; omega), rfl⟩
  · go_enter Try.func5, Try.ntmps5
    go_wp2
    go_ret
    exact ⟨ret_bool (by simp [fits2]; omega), rfl⟩

/-- Together more than 1 MiB: true at once. -/
theorem walk_far (a b : ByteArray) (ha : a.size ≤ maxLen) (hb : b.size ≤ maxLen) (hs : 1048576 < a.size + b.size) (w : World) :
    Calls Try.prog 3 #[.string a, .string b] w fun e w' => e = .returned (.bool true) ∧ Grown w w' := by
  have hf : fits2 a.size b.size = false := by simp [fits2]; omega
  go_enter Try.func3, Try.ntmps3
  go_wp2_with (go_at_call 5; refine (bytes5 _ _ _ ha hb).mono ?_; rintro e w' ⟨rfl, rfl⟩)
  go_ret
  exact ⟨rfl, Grown.refl _⟩

set_option maxHeartbeats 4000000 in
/-- a's rest is not empty: the cut stays where it was in a. -/
theorem walk_r (a b da ra db rb : ByteArray) (hs : a.size + b.size ≤ 1048576)
    (hda : Hid (da.data.toList = tw a.data.toList)) (hra : Hid (ra.data.toList = dw a.data.toList)) (hdb : Hid (db.data.toList = tw b.data.toList)) (hrb : Hid (rb.data.toList = dw b.data.toList))
    (hne : 0 < ra.size) (w : World) :
    Calls Try.prog 3 #[.string a, .string b] w fun e w' => e = .returned (.bool true) ∧ Grown w w' := by
  have hf : fits2 a.size b.size = true := by simp [fits2]; omega
  have ha : a.size ≤ maxLen := by unfold maxLen; omega
  have hb : b.size ≤ maxLen := by unfold maxLen; omega
  have hab : (a ++ b).size ≤ maxLen := by unfold maxLen; simp; omega
  have hj : da ++ ra = a := ba_ext (by rw [data_append, hda.out, hra.out, tw_dw])
  have hz1 : da.size + ra.size ≤ 1048576 := by
    have h1 : (da ++ ra).size = a.size := by rw [hj]
    have h2 : (da ++ ra).size = da.size + ra.size := by simp
    omega
  have hz2 : ra.size + b.size ≤ 1048576 := by
    have h1 : (da ++ ra).size = a.size := by rw [hj]
    have h2 : (da ++ ra).size = da.size + ra.size := by simp
    omega
  have hz3 : da.size + db.size ≤ 1048576 := by
    have h1 : (da ++ ra).size = a.size := by rw [hj]
    have h2 : (da ++ ra).size = da.size + ra.size := by simp
    have hjb : db ++ rb = b := ba_ext (by rw [data_append, hdb.out, hrb.out, tw_dw])
    have h3 : (db ++ rb).size = b.size := by rw [hjb]
    have h4 : (db ++ rb).size = db.size + rb.size := by simp
    omega
  have hdas : da.size ≤ maxLen := by unfold maxLen; omega
  have hall : Hid (allD da.data.toList = true) := by rw [hda.out]; exact tw_all _
  obtain ⟨t, ht⟩ := cons_of_size ra hne
  have hnd : Hid (digB ((ra[0].toNat : Nat) : Int) = false) := dw_head a.data.toList t ra[0] (by rw [← hra.out]; exact ht)
  have hnn : dw a.data.toList ≠ [] := by rw [← hra.out, ht]; simp
  have hD : Hid (da.data.toList = tw (a ++ b).data.toList) := by rw [data_append, tw_append, if_neg hnn]; exact hda.out
  have hR : Hid ((ra ++ b).data.toList = dw (a ++ b).data.toList) := by rw [data_append, data_append, dw_append, if_neg hnn, hra.out]; exact rfl
  have hem := isEmpty_no ra hne
  have hneI : (0 : Int) < (ra.size : Int) := by omega
  clear ht hnn t
  go_enter Try.func3, Try.ntmps3
  go_wp2_with (first
    | (go_at_call 5; refine (bytes5 _ _ _ ha hb).mono ?_; rintro e w' ⟨rfl, rfl⟩)
    | (go_at_call_of 6 (Value.string (a ++ b)); refine (ZZcutDigits _ _ _ _ hab hD hR).mono ?_; rintro e w' ⟨rfl, n, rfl⟩)
    | (go_at_call_of 6 (Value.string a); refine (ZZcutDigits _ _ _ _ ha hda hra).mono ?_; rintro e w' ⟨rfl, n, rfl⟩)
    | (go_at_call_of 6 (Value.string b); refine (ZZcutDigits _ _ _ _ hb hdb hrb).mono ?_; rintro e w' ⟨rfl, n, rfl⟩)
    | (go_at_call 7; refine (allDigits_v _ _ hdas hall.out _).mono ?_; rintro e w' ⟨rfl, rfl⟩)
    | (go_at_call 8; refine (isDigitByte_v _ _ hnd.out _).mono ?_; rintro e w' ⟨rfl, rfl⟩))
  go_ret
  exact ⟨rfl, Grown_drewN (Grown.refl _) _⟩

set_option maxHeartbeats 4000000 in
/-- a is all digits: the cut of b, moved behind a's digits. -/
theorem walk_e (a b da ra db rb : ByteArray) (hs : a.size + b.size ≤ 1048576)
    (hda : Hid (da.data.toList = tw a.data.toList)) (hra : Hid (ra.data.toList = dw a.data.toList)) (hdb : Hid (db.data.toList = tw b.data.toList)) (hrb : Hid (rb.data.toList = dw b.data.toList))
    (hne : ra.size = 0) (w : World) :
    Calls Try.prog 3 #[.string a, .string b] w fun e w' => e = .returned (.bool true) ∧ Grown w w' := by
  have hf : fits2 a.size b.size = true := by simp [fits2]; omega
  have ha : a.size ≤ maxLen := by unfold maxLen; omega
  have hb : b.size ≤ maxLen := by unfold maxLen; omega
  have hab : (a ++ b).size ≤ maxLen := by unfold maxLen; simp; omega
  have hj : da ++ ra = a := ba_ext (by rw [data_append, hda.out, hra.out, tw_dw])
  have hz1 : da.size + ra.size ≤ 1048576 := by
    have h1 : (da ++ ra).size = a.size := by rw [hj]
    have h2 : (da ++ ra).size = da.size + ra.size := by simp
    omega
  have hz2 : ra.size + b.size ≤ 1048576 := by
    have h1 : (da ++ ra).size = a.size := by rw [hj]
    have h2 : (da ++ ra).size = da.size + ra.size := by simp
    omega
  have hz3 : da.size + db.size ≤ 1048576 := by
    have h1 : (da ++ ra).size = a.size := by rw [hj]
    have h2 : (da ++ ra).size = da.size + ra.size := by simp
    have hjb : db ++ rb = b := ba_ext (by rw [data_append, hdb.out, hrb.out, tw_dw])
    have h3 : (db ++ rb).size = b.size := by rw [hjb]
    have h4 : (db ++ rb).size = db.size + rb.size := by simp
    omega
  have hdas : da.size ≤ maxLen := by unfold maxLen; omega
  have hall : Hid (allD da.data.toList = true) := by rw [hda.out]; exact tw_all _
  have hnn : dw a.data.toList = [] := by rw [← hra.out]; exact nil_of_size ra hne
  have hD : Hid ((da ++ db).data.toList = tw (a ++ b).data.toList) := by rw [data_append, data_append, tw_append, if_pos hnn, hda.out, hdb.out]; exact rfl
  have hR : Hid (rb.data.toList = dw (a ++ b).data.toList) := by rw [data_append, dw_append, if_pos hnn]; exact hrb.out
  have hem := isEmpty_yes ra hne
  clear hnn hne
  go_enter Try.func3, Try.ntmps3
  go_wp2_with (first
    | (go_at_call 5; refine (bytes5 _ _ _ ha hb).mono ?_; rintro e w' ⟨rfl, rfl⟩)
    | (go_at_call_of 6 (Value.string (a ++ b)); refine (ZZcutDigits _ _ _ _ hab hD hR).mono ?_; rintro e w' ⟨rfl, n, rfl⟩)
    | (go_at_call_of 6 (Value.string a); refine (ZZcutDigits _ _ _ _ ha hda hra).mono ?_; rintro e w' ⟨rfl, n, rfl⟩)
    | (go_at_call_of 6 (Value.string b); refine (ZZcutDigits _ _ _ _ hb hdb hrb).mono ?_; rintro e w' ⟨rfl, n, rfl⟩)
    | (go_at_call 7; refine (allDigits_v _ _ hdas hall.out _).mono ?_; rintro e w' ⟨rfl, rfl⟩))
  go_ret
  exact ⟨rfl, Grown_drewN (Grown.refl _) _⟩
theorem mk_tw (s : ByteArray) : ∃ d r : ByteArray, Hid (d.data.toList = tw s.data.toList) ∧ Hid (r.data.toList = dw s.data.toList) :=
  ⟨⟨(tw s.data.toList).toArray⟩, ⟨(dw s.data.toList).toArray⟩, rfl, rfl⟩

/-! ### STEP 1: THE WALK: the Go text returns true. 'Grown w w'': the world has at most new blocks (Derived/RowKit3.lean). Part the cases AHEAD of 'go_enter' where a test parts the walk; take each callee by a contract of your own. -/
theorem walk (a0 : ByteArray) (a1 : ByteArray) (w0 : a0.size ≤ maxLen) (w1 : a1.size ≤ maxLen) (w : World) :
    Calls Try.prog 3 #[.string a0, .string a1] w fun e w' => e = .returned (.bool true) ∧ Grown w w' := by
  by_cases hs : a0.size + a1.size ≤ 1048576
  · obtain ⟨da, ra, hda, hra⟩ := mk_tw a0
    obtain ⟨db, rb, hdb, hrb⟩ := mk_tw a1
    by_cases hne : 0 < ra.size
    · exact walk_r a0 a1 da ra db rb hs hda hra hdb hrb hne w
    · exact walk_e a0 a1 da ra db rb hs hda hra hdb hrb (by omega) w
  · exact walk_far a0 a1 w0 w1 (by omega) w

/-! ### THE ROW's STEP: WRITTEN OUT: LEAVE IT -/
set_option maxRecDepth 100000 in
theorem lifted (os : Os) (started : os.Started) (H : Type) (enc : TypeId × Value → H) :
    ReturnsInHanded {} Try.checked os 3 .any (Rows.fnCutDigitsJoinAtAnyCutSpec.pre6 enc Try.prog Try.f3 Rows.fnCutDigitsJoinAtAnyCutRow.domain false) (Rows.fnCutDigitsJoinAtAnyCutSpec.post enc Try.prog Try.f3 false true false false) := by
  refine returnsInHanded_of_change (C := Try.checked) own started (by kernel_rfl) Try.func3
    (ChangeSpec.witness6 (enc := enc) (C := Try.checked) false ⟨#[], #[.string ByteArray.empty, .string ByteArray.empty], []⟩ 8 (by kernel_rfl) (by kernel_rfl) (by kernel_rfl) (by kernel_rfl)) ?_
  intro W base args ds gs before hval0 hW hcnd _
  have hval : ∀ (j : Nat) t v, Try.f3.params[j]? = some t → args[j]? = some v → Value.okWide Try.prog W .any base t v := hval0
  have hW' := hW
  obtain ⟨p, q, hA0, hV, rfl, hfz, hnd⟩ := hW
  have hA : DataW.TrodAll enc Try.prog W 0 (fun _ => true) true Try.f3.params.toList args.toList ds p := hA0
  rw [Try.params3] at hA hval
  obtain ⟨v0, vs0, d0, ds0, p0, q0, hargs, rfl, rfl, h0, r0⟩ := trodAll_cons hA
  obtain ⟨v1, vs1, d1, ds1, p1, q1, rfl, rfl, rfl, h1, r1⟩ := trodAll_cons r0
  obtain ⟨rfl, rfl, rfl⟩ := trodAll_nil r1
  obtain rfl : args = #[v0, v1] := by cases args; simp_all
  obtain ⟨rfl, rfl⟩ := trodVars_none hV
  obtain ⟨a0, rfl, rfl, rfl, w0⟩ := open_string Try.underlying9 (hval 0 9 v0 rfl rfl) h0
  obtain ⟨a1, rfl, rfl, rfl, w1⟩ := open_string Try.underlying9 (hval 1 9 v1 rfl rfl) h1
  clear hA0 hval0
  simp only [List.append_nil] at hW'
  refine (walk a0 a1 w0 w1 W).mono fun e W' ⟨he, hg⟩ => ?_
  subst he
  exact ⟨_, rfl, post_of_same (pa := []) (pv := []) hW' (fun _ _ _ => (trodAll_cons_mk (shut_bool Try.underlying4 _) trodAll_mk0)) (fun sp _ => (trodAll_cons_mk (shut_string Try.underlying9 w0) (trodAll_cons_mk (shut_string Try.underlying9 w1) trodAll_mk0))) (fun _ _ => rfl) rfl
    (hg.frame _) hg.2.1 (ok_one (by kernel_rfl) rfl (okWide_bool_mk Try.underlying4 _))⟩

theorem over : Rows.fnCutDigitsJoinAtAnyCutRow.holds Try.pinned (OpenSpec.ofChange Rows.fnCutDigitsJoinAtAnyCutSpec) :=
  OpenClaim.holds_of_wide 3 Try.f3 rfl rfl rfl rfl rfl rfl rfl ⟨rfl, rfl, rfl, rfl, rfl⟩ rfl rfl rfl rfl rfl (by kernel_rfl) Try.func3 (by kernel_rfl)
    (of_decide_eq_true (by kernel_rfl)) (by unfold Func.isWrapper; first | (rw [if_pos (by decide +kernel)]; kernel_rfl) | (rw [if_neg (by decide +kernel)]; exact ⟨rfl, rfl⟩))
    (fun os started H enc _ => lifted os started H enc)

/-- ████ THE STATEMENT ████ -/
theorem proved : Rows.FnCutDigitsJoinAtAnyCutSaid :=
  over
end Go.Proofs.Qxb6619284a.fnCutDigitsJoinAtAnyCut
