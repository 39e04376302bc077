/-
  The proof of 'Rows.FnIsIdentifierAtAnyCutSaid'. The frame is the guide's shell; the walks are ours.
-/
import Derived.Test.Qxb6619274aRows
import Derived.WalkKit
import Derived.ProofKit
import Derived.OpenShut
import Derived.ShutString
import Derived.Test.Qxb6619274aWalks
import Derived.BigQuiet
import Derived.Deep.QuietTactic
import Derived.Deep.RegionWith
namespace Go.Proofs.Qxb6619274a.fnIsIdentifierAtAnyCut
open Go.ChangeShapes Go.WideShapes Go.ChangeAt Go.RowKit
open Go.ChangeMaps (open_string shut_string)
open Pl Wk
set_option linter.unusedVariables false      -- a walk need not use every 'w<i>' (that an integer argument fits its kind)

theorem own : ownKnob Try.prog.godebug = none := by kernel_rfl


theorem zz (s : ByteArray) (v : Bool) (hs : s.size ≤ maxLen) (hv : word idB s.data.toList = v) (w : World) :
    Calls Try.prog 7 #[.string s] w fun e w' => e = .returned (.bool v) ∧ w' = w := by
  subst hv; exact ZZIsIdentifier s w hs

theorem dec (n : Int) (v : Bool) (hv : idB n = v) (w : World) :
    Calls Try.prog 8 #[.int .u8 n] w fun e w' => e = .returned (.bool v) ∧ w' = w := by
  subst hv; exact identByte n w

theorem grown_drewN (w : World) (n : Nat) : Grown w (w.drewN n) := Grown.refl w
theorem Grown_drewN {W w : World} (h : Grown W w) (n : Nat) : Grown W (w.drewN n) := h

/-- Together more than 1 MiB: true at once. -/
theorem walk_far (a b : ByteArray) (ha : a.size ≤ maxLen) (hb : b.size ≤ maxLen) (hs : 1048576 < a.size + b.size) (w : World) :
    Calls Try.prog 3 #[.string a, .string b] w fun e w' => e = .returned (.bool true) ∧ Grown w w' := by
  have hf : fits2 a.size b.size = false := by simp [fits2]; omega
  go_enter Try.func3, Try.ntmps3
  go_wp2_with (go_at_call 6; refine (bytes6 _ _ _ ha hb).mono ?_; rintro e w' ⟨rfl, rfl⟩)
  go_ret
  exact ⟨rfl, Grown.refl _⟩

set_option maxHeartbeats 4000000 in
theorem walk_ee (a b : ByteArray) (hA : a.size = 0) (hB : b.size = 0) (hs : a.size + b.size ≤ 1048576) (w : World) :
    Calls Try.prog 3 #[.string a, .string b] w fun e w' => e = .returned (.bool true) ∧ Grown w w' := by
  have hf : fits2 a.size b.size = true := by simp [fits2]; omega
  have ha : a.size ≤ maxLen := by unfold maxLen; omega
  have hb : b.size ≤ maxLen := by unfold maxLen; omega
  have hab : (a ++ b).size ≤ maxLen := by unfold maxLen; simp; omega
  have ea : ((a.size : Int) == 0) = true := beq_iff_eq.2 (by omega)
  have ja : decide (0 < a.size) = false := by rw [decide_eq_false_iff_not]; omega
  have eb : ((b.size : Int) == 0) = true := beq_iff_eq.2 (by omega)
  have jb : decide (0 < b.size) = false := by rw [decide_eq_false_iff_not]; omega
  have hvab : Hid (word idB (a ++ b).data.toList = false) := join_ee idB a b hA hB
  have jab : decide ((0 : Int) < (a.size : Int) + (b.size : Int)) = false := by rw [decide_eq_false_iff_not]; omega
  have hA' : Hid (a.size = 0) := hA
  clear hA
  have hB' : Hid (b.size = 0) := hB
  clear hB
  all_goals
    go_enter Try.func3, Try.ntmps3
    go_wp2_with (first
      | (go_at_call 6; refine (bytes6 _ _ _ ha hb).mono ?_; rintro e w' ⟨rfl, rfl⟩)
      | (go_at_call_of 7 (Value.string (a ++ b)); refine (zz _ _ hab hvab.out _).mono ?_; rintro e w' ⟨rfl, rfl⟩))
    go_quiet (fail)
    have hg : Grown w' (w'.drewN nq) := grown_drewN w' nq
    generalize w'.drewN nq = w1 at hg ⊢
    go_wp2
    go_quiet (fail)
    go_wp2
    go_ret
    exact ⟨rfl, Grown_drewN hg _⟩

set_option maxHeartbeats 4000000 in
theorem walk_en (a b : ByteArray) (hA : a.size = 0) (hB : 0 < b.size) (hs : a.size + b.size ≤ 1048576) (vb : Bool) (hvb : Hid (word idB b.data.toList = vb)) (db : Bool) (hdb : Hid (idB ((b[0].toNat : Nat) : Int) = db)) (w : World) :
    Calls Try.prog 3 #[.string a, .string b] w fun e w' => e = .returned (.bool true) ∧ Grown w w' := by
  have hf : fits2 a.size b.size = true := by simp [fits2]; omega
  have ha : a.size ≤ maxLen := by unfold maxLen; omega
  have hb : b.size ≤ maxLen := by unfold maxLen; omega
  have hab : (a ++ b).size ≤ maxLen := by unfold maxLen; simp; omega
  have ea : ((a.size : Int) == 0) = true := beq_iff_eq.2 (by omega)
  have ja : decide (0 < a.size) = false := by rw [decide_eq_false_iff_not]; omega
  have eb : ((b.size : Int) == 0) = false := beq_eq_false_iff_ne.2 (by omega)
  have ib : (1 : Int) ≤ (b.size : Int) := by omega
  have jb : (0 : Int) < (b.size : Int) := by omega
  have kb : (b.extract 0 1).size ≤ maxLen := by simp; omega
  have Fb : Hid (word idB (b.extract 0 1).data.toList = db) := (first_byte idB b hB).trans hdb.out
  have hvab : Hid (word idB (a ++ b).data.toList = vb) := (join_en idB a b hA).trans hvb.out
  have jab : decide ((0 : Int) < (a.size : Int) + (b.size : Int)) = true := by rw [decide_eq_true_iff]; omega
  have hA' : Hid (a.size = 0) := hA
  clear hA
  cases vb
  all_goals
    go_enter Try.func3, Try.ntmps3
    go_wp2_with (first
      | (go_at_call 6; refine (bytes6 _ _ _ ha hb).mono ?_; rintro e w' ⟨rfl, rfl⟩)
      | (go_at_call_of 7 (Value.string (a ++ b)); refine (zz _ _ hab hvab.out _).mono ?_; rintro e w' ⟨rfl, rfl⟩)
      | (go_at_call_of 7 (Value.string b); refine (zz _ _ hb hvb.out _).mono ?_; rintro e w' ⟨rfl, rfl⟩))
    go_quiet (fail)
    have hg : Grown w' (w'.drewN nq) := grown_drewN w' nq
    generalize w'.drewN nq = w1 at hg ⊢
    go_wp2
    go_quiet ((first | (go_at_call_of 7 (Value.string (b.extract 0 1)); exact Calls.quiet_of_same (zz _ _ kb Fb.out _)) | (go_at_call 8; exact Calls.quiet_of_same (dec _ _ hdb.out _))))
    go_wp2
    go_ret
    exact ⟨rfl, Grown_drewN hg _⟩

set_option maxHeartbeats 4000000 in
theorem walk_ne (a b : ByteArray) (hA : 0 < a.size) (hB : b.size = 0) (hs : a.size + b.size ≤ 1048576) (va : Bool) (hva : Hid (word idB a.data.toList = va)) (da : Bool) (hda : Hid (idB ((a[0].toNat : Nat) : Int) = da)) (w : World) :
    Calls Try.prog 3 #[.string a, .string b] w fun e w' => e = .returned (.bool true) ∧ Grown w w' := by
  have hf : fits2 a.size b.size = true := by simp [fits2]; omega
  have ha : a.size ≤ maxLen := by unfold maxLen; omega
  have hb : b.size ≤ maxLen := by unfold maxLen; omega
  have hab : (a ++ b).size ≤ maxLen := by unfold maxLen; simp; omega
  have ea : ((a.size : Int) == 0) = false := beq_eq_false_iff_ne.2 (by omega)
  have ia : (1 : Int) ≤ (a.size : Int) := by omega
  have ja : (0 : Int) < (a.size : Int) := by omega
  have ka : (a.extract 0 1).size ≤ maxLen := by simp; omega
  have Fa : Hid (word idB (a.extract 0 1).data.toList = da) := (first_byte idB a hA).trans hda.out
  have eb : ((b.size : Int) == 0) = true := beq_iff_eq.2 (by omega)
  have jb : decide (0 < b.size) = false := by rw [decide_eq_false_iff_not]; omega
  have hvab : Hid (word idB (a ++ b).data.toList = va) := (join_ne idB a b hB).trans hva.out
  have jab : decide ((0 : Int) < (a.size : Int) + (b.size : Int)) = true := by rw [decide_eq_true_iff]; omega
  have hB' : Hid (b.size = 0) := hB
  clear hB
  cases va
  all_goals
    go_enter Try.func3, Try.ntmps3
    go_wp2_with (first
      | (go_at_call 6; refine (bytes6 _ _ _ ha hb).mono ?_; rintro e w' ⟨rfl, rfl⟩)
      | (go_at_call_of 7 (Value.string (a ++ b)); refine (zz _ _ hab hvab.out _).mono ?_; rintro e w' ⟨rfl, rfl⟩)
      | (go_at_call_of 7 (Value.string a); refine (zz _ _ ha hva.out _).mono ?_; rintro e w' ⟨rfl, rfl⟩))
    go_quiet ((first | (go_at_call_of 7 (Value.string (a.extract 0 1)); exact Calls.quiet_of_same (zz _ _ ka Fa.out _)) | (go_at_call 8; exact Calls.quiet_of_same (dec _ _ hda.out _))))
    have hg : Grown w' (w'.drewN nq) := grown_drewN w' nq
    generalize w'.drewN nq = w1 at hg ⊢
    go_wp2
    go_quiet (fail)
    go_wp2
    go_ret
    exact ⟨rfl, Grown_drewN hg _⟩

set_option maxHeartbeats 4000000 in
theorem walk_nn (a b : ByteArray) (hA : 0 < a.size) (hB : 0 < b.size) (hs : a.size + b.size ≤ 1048576) (va : Bool) (hva : Hid (word idB a.data.toList = va)) (da : Bool) (hda : Hid (idB ((a[0].toNat : Nat) : Int) = da)) (vb : Bool) (hvb : Hid (word idB b.data.toList = vb)) (db : Bool) (hdb : Hid (idB ((b[0].toNat : Nat) : Int) = db)) (w : World) :
    Calls Try.prog 3 #[.string a, .string b] w fun e w' => e = .returned (.bool true) ∧ Grown w w' := by
  have hf : fits2 a.size b.size = true := by simp [fits2]; omega
  have ha : a.size ≤ maxLen := by unfold maxLen; omega
  have hb : b.size ≤ maxLen := by unfold maxLen; omega
  have hab : (a ++ b).size ≤ maxLen := by unfold maxLen; simp; omega
  have ea : ((a.size : Int) == 0) = false := beq_eq_false_iff_ne.2 (by omega)
  have ia : (1 : Int) ≤ (a.size : Int) := by omega
  have ja : (0 : Int) < (a.size : Int) := by omega
  have ka : (a.extract 0 1).size ≤ maxLen := by simp; omega
  have Fa : Hid (word idB (a.extract 0 1).data.toList = da) := (first_byte idB a hA).trans hda.out
  have eb : ((b.size : Int) == 0) = false := beq_eq_false_iff_ne.2 (by omega)
  have ib : (1 : Int) ≤ (b.size : Int) := by omega
  have jb : (0 : Int) < (b.size : Int) := by omega
  have kb : (b.extract 0 1).size ≤ maxLen := by simp; omega
  have Fb : Hid (word idB (b.extract 0 1).data.toList = db) := (first_byte idB b hB).trans hdb.out
  have hvab : Hid (word idB (a ++ b).data.toList = (va && vb)) := by
    rw [← hva.out, ← hvb.out]; exact join_nn idB a b hA hB
  have jab : decide ((0 : Int) < (a.size : Int) + (b.size : Int)) = true := by rw [decide_eq_true_iff]; omega
  cases va <;> cases vb
  all_goals
    go_enter Try.func3, Try.ntmps3
    go_wp2_with (first
      | (go_at_call 6; refine (bytes6 _ _ _ ha hb).mono ?_; rintro e w' ⟨rfl, rfl⟩)
      | (go_at_call_of 7 (Value.string (a ++ b)); refine (zz _ _ hab hvab.out _).mono ?_; rintro e w' ⟨rfl, rfl⟩)
      | (go_at_call_of 7 (Value.string a); refine (zz _ _ ha hva.out _).mono ?_; rintro e w' ⟨rfl, rfl⟩)
      | (go_at_call_of 7 (Value.string b); refine (zz _ _ hb hvb.out _).mono ?_; rintro e w' ⟨rfl, rfl⟩))
    go_quiet ((first | (go_at_call_of 7 (Value.string (a.extract 0 1)); exact Calls.quiet_of_same (zz _ _ ka Fa.out _)) | (go_at_call 8; exact Calls.quiet_of_same (dec _ _ hda.out _))))
    have hg : Grown w' (w'.drewN nq) := grown_drewN w' nq
    generalize w'.drewN nq = w1 at hg ⊢
    go_wp2
    go_quiet ((first | (go_at_call_of 7 (Value.string (b.extract 0 1)); exact Calls.quiet_of_same (zz _ _ kb Fb.out _)) | (go_at_call 8; exact Calls.quiet_of_same (dec _ _ hdb.out _))))
    go_wp2
    go_ret
    exact ⟨rfl, Grown_drewN hg _⟩

/-! ### STEP 1: THE WALK: the Go text returns true. 'Grown w w'': the world has at most new blocks (Derived/RowKit3.lean). Part the cases AHEAD of 'go_enter' where a test parts the walk; take each callee by a contract of your own. -/
theorem walk (a0 : ByteArray) (a1 : ByteArray) (w0 : a0.size ≤ maxLen) (w1 : a1.size ≤ maxLen) (w : World) :
    Calls Try.prog 3 #[.string a0, .string a1] w fun e w' => e = .returned (.bool true) ∧ Grown w w' := by
  by_cases hs : a0.size + a1.size ≤ 1048576
  · by_cases hA : 0 < a0.size
    · by_cases hB : 0 < a1.size
      · exact walk_nn a0 a1 hA hB hs _ rfl _ rfl _ rfl _ rfl w
      · exact walk_ne a0 a1 hA (by omega) hs _ rfl _ rfl w
    · by_cases hB : 0 < a1.size
      · exact walk_en a0 a1 (by omega) hB hs _ rfl _ rfl w
      · exact walk_ee a0 a1 (by omega) (by omega) hs w
  · exact walk_far a0 a1 w0 w1 (by omega) w

/-! ### THE ROW's STEP: WRITTEN OUT: LEAVE IT -/
set_option maxRecDepth 100000 in
theorem lifted (os : Os) (started : os.Started) (H : Type) (enc : TypeId × Value → H) :
    ReturnsInHanded {} Try.checked os 3 .any (Rows.fnIsIdentifierAtAnyCutSpec.pre6 enc Try.prog Try.f3 Rows.fnIsIdentifierAtAnyCutRow.domain false) (Rows.fnIsIdentifierAtAnyCutSpec.post enc Try.prog Try.f3 false true false false) := by
  refine returnsInHanded_of_change (C := Try.checked) own started (by kernel_rfl) Try.func3
    (ChangeSpec.witness6 (enc := enc) (C := Try.checked) false ⟨#[], #[.string ByteArray.empty, .string ByteArray.empty], []⟩ 8 (by kernel_rfl) (by kernel_rfl) (by kernel_rfl) (by kernel_rfl)) ?_
  intro W base args ds gs before hval0 hW hcnd _
  have hval : ∀ (j : Nat) t v, Try.f3.params[j]? = some t → args[j]? = some v → Value.okWide Try.prog W .any base t v := hval0
  have hW' := hW
  obtain ⟨p, q, hA0, hV, rfl, hfz, hnd⟩ := hW
  have hA : DataW.TrodAll enc Try.prog W 0 (fun _ => true) true Try.f3.params.toList args.toList ds p := hA0
  rw [Try.params3] at hA hval
  obtain ⟨v0, vs0, d0, ds0, p0, q0, hargs, rfl, rfl, h0, r0⟩ := trodAll_cons hA
  obtain ⟨v1, vs1, d1, ds1, p1, q1, rfl, rfl, rfl, h1, r1⟩ := trodAll_cons r0
  obtain ⟨rfl, rfl, rfl⟩ := trodAll_nil r1
  obtain rfl : args = #[v0, v1] := by cases args; simp_all
  obtain ⟨rfl, rfl⟩ := trodVars_none hV
  obtain ⟨a0, rfl, rfl, rfl, w0⟩ := open_string Try.underlying9 (hval 0 9 v0 rfl rfl) h0
  obtain ⟨a1, rfl, rfl, rfl, w1⟩ := open_string Try.underlying9 (hval 1 9 v1 rfl rfl) h1
  clear hA0 hval0
  simp only [List.append_nil] at hW'
  refine (walk a0 a1 w0 w1 W).mono fun e W' ⟨he, hg⟩ => ?_
  subst he
  exact ⟨_, rfl, post_of_same (pa := []) (pv := []) hW' (fun _ _ _ => (trodAll_cons_mk (shut_bool Try.underlying4 _) trodAll_mk0)) (fun sp _ => (trodAll_cons_mk (shut_string Try.underlying9 w0) (trodAll_cons_mk (shut_string Try.underlying9 w1) trodAll_mk0))) (fun _ _ => rfl) rfl
    (hg.frame _) hg.2.1 (ok_one (by kernel_rfl) rfl (okWide_bool_mk Try.underlying4 _))⟩

theorem over : Rows.fnIsIdentifierAtAnyCutRow.holds Try.pinned (OpenSpec.ofChange Rows.fnIsIdentifierAtAnyCutSpec) :=
  OpenClaim.holds_of_wide 3 Try.f3 rfl rfl rfl rfl rfl rfl rfl ⟨rfl, rfl, rfl, rfl, rfl⟩ rfl rfl rfl rfl rfl (by kernel_rfl) Try.func3 (by kernel_rfl)
    (of_decide_eq_true (by kernel_rfl)) (by unfold Func.isWrapper; first | (rw [if_pos (by decide +kernel)]; kernel_rfl) | (rw [if_neg (by decide +kernel)]; exact ⟨rfl, rfl⟩))
    (fun os started H enc _ => lifted os started H enc)

/-- ████ THE STATEMENT ████ -/
theorem proved : Rows.FnIsIdentifierAtAnyCutSaid :=
  over
end Go.Proofs.Qxb6619274a.fnIsIdentifierAtAnyCut
