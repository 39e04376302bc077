/-
  The proof of 'Rows.FnDigitsAreIdentifiersWithoutLettersOrHyphensSaid'. The frame is the guide's shell; the walks are ours.
-/
import Derived.Test.Qxb6619274aRows
import Derived.WalkKit
import Derived.ProofKit
import Derived.OpenShut
import Derived.ShutString
import Derived.Test.Qxb6619274aWalks
import Derived.BigQuiet
import Derived.Deep.QuietTactic
import Derived.Deep.RegionWith
namespace Go.Proofs.Qxb6619274a.fnDigitsAreIdentifiersWithoutLettersOrHyphens
open Go.ChangeShapes Go.WideShapes Go.ChangeAt Go.RowKit
open Go.ChangeMaps (open_string shut_string)
open Pl Wk
set_option linter.unusedVariables false      -- a walk need not use every 'w<i>' (that an integer argument fits its kind)

theorem own : ownKnob Try.prog.godebug = none := by kernel_rfl


theorem zzD (s : ByteArray) (v : Bool) (hs : s.size ≤ maxLen) (hv : word digB s.data.toList = v) (w : World) :
    Calls Try.prog 10 #[.string s] w fun e w' => e = .returned (.bool v) ∧ w' = w := by
  subst hv; exact ZZIsDigits s w hs
theorem zzI (s : ByteArray) (v : Bool) (hs : s.size ≤ maxLen) (hv : word idB s.data.toList = v) (w : World) :
    Calls Try.prog 7 #[.string s] w fun e w' => e = .returned (.bool v) ∧ w' = w := by
  subst hv; exact ZZIsIdentifier s w hs
theorem zzN (s : ByteArray) (v : Bool) (hs : s.size ≤ maxLen) (hv : allP (fun n => !alB n) s.data.toList = v) (w : World) :
    Calls Try.prog 13 #[.string s] w fun e w' => e = .returned (.bool v) ∧ w' = w := by
  subst hv; exact noLetterOrHyphen s w hs
theorem dec (n : Int) (v : Bool) (hv : digB n = v) (w : World) :
    Calls Try.prog 11 #[.int .u8 n] w fun e w' => e = .returned (.bool v) ∧ w' = w := by
  subst hv; exact decimalByte n w
theorem idn (n : Int) (v : Bool) (hv : idB n = v) (w : World) :
    Calls Try.prog 8 #[.int .u8 n] w fun e w' => e = .returned (.bool v) ∧ w' = w := by
  subst hv; exact identByte n w

theorem grown_drewN (w : World) (n : Nat) : Grown w (w.drewN n) := Grown.refl w
theorem Grown_drewN {W w : World} (h : Grown W w) (n : Nat) : Grown W (w.drewN n) := h

/-- More than 1 MiB: true at once. -/
theorem walk_far (a : ByteArray) (ha : a.size ≤ maxLen) (hs : 1048576 < a.size) (w : World) :
    Calls Try.prog 5 #[.string a] w fun e w' => e = .returned (.bool true) ∧ Grown w w' := by
  have hf : fits2 a.size 0 = false := by simp [fits2]; omega
  go_enter Try.func5, Try.ntmps5
  go_wp2_with (go_at_call 12; refine (bytes12 _ _ ha).mono ?_; rintro e w' ⟨rfl, rfl⟩)
  go_ret
  exact ⟨rfl, Grown.refl _⟩

set_option maxHeartbeats 4000000 in
theorem walk_e (a : ByteArray) (hA : a.size = 0) (vi vn : Bool) (hvi : Hid (word idB a.data.toList = vi)) (hvn : Hid (allP (fun n => !alB n) a.data.toList = vn)) (w : World) :
    Calls Try.prog 5 #[.string a] w fun e w' => e = .returned (.bool true) ∧ Grown w w' := by
  have hf : fits2 a.size 0 = true := by simp [fits2]; omega
  have ha : a.size ≤ maxLen := by unfold maxLen; omega
  have ja : decide (0 < a.size) = false := by rw [decide_eq_false_iff_not]; omega
  have hvd : Hid (word digB a.data.toList = (vi && vn)) := by rw [← hvi.out, ← hvn.out]; exact word_dig _
  have hA' : a.size ≤ 0 := by omega
  clear hA
  cases vi <;> cases vn
  all_goals
    go_enter Try.func5, Try.ntmps5
    go_wp2_with (first
      | (go_at_call 12; refine (bytes12 _ _ ha).mono ?_; rintro e w' ⟨rfl, rfl⟩)
      | (go_at_call 10; refine (zzD _ _ ha hvd.out _).mono ?_; rintro e w' ⟨rfl, rfl⟩)
      | (go_at_call 7; refine (zzI _ _ ha hvi.out _).mono ?_; rintro e w' ⟨rfl, rfl⟩)
      | (go_at_call 13; refine (zzN _ _ ha hvn.out _).mono ?_; rintro e w' ⟨rfl, rfl⟩))
    go_ret
    exact ⟨rfl, Grown.refl _⟩

set_option maxHeartbeats 4000000 in
theorem walk_n (a : ByteArray) (hA : 0 < a.size) (hs : a.size ≤ 1048576) (vi vn : Bool) (hvi : Hid (word idB a.data.toList = vi)) (hvn : Hid (allP (fun n => !alB n) a.data.toList = vn))
    (da : Bool) (hda : Hid (digB ((a[0].toNat : Nat) : Int) = da)) (ia : Bool) (hia : Hid (idB ((a[0].toNat : Nat) : Int) = ia)) (w : World) :
    Calls Try.prog 5 #[.string a] w fun e w' => e = .returned (.bool true) ∧ Grown w w' := by
  have hf : fits2 a.size 0 = true := by simp [fits2]; omega
  have ha : a.size ≤ maxLen := by unfold maxLen; omega
  have ja : (0 : Int) < (a.size : Int) := by omega
  have la : (1 : Int) ≤ (a.size : Int) := by omega
  have ka : (a.extract 0 1).size ≤ maxLen := by simp; omega
  have hvd : Hid (word digB a.data.toList = (vi && vn)) := by rw [← hvi.out, ← hvn.out]; exact word_dig _
  have FD : Hid (word digB (a.extract 0 1).data.toList = da) := (first_byte digB a hA).trans hda.out
  have FI : Hid (word idB (a.extract 0 1).data.toList = ia) := (first_byte idB a hA).trans hia.out
  cases vi <;> cases vn
  all_goals
    go_enter Try.func5, Try.ntmps5
    go_wp2_with (first
      | (go_at_call 12; refine (bytes12 _ _ ha).mono ?_; rintro e w' ⟨rfl, rfl⟩)
      | (go_at_call 10; refine (zzD _ _ ha hvd.out _).mono ?_; rintro e w' ⟨rfl, rfl⟩)
      | (go_at_call 7; refine (zzI _ _ ha hvi.out _).mono ?_; rintro e w' ⟨rfl, rfl⟩)
      | (go_at_call 13; refine (zzN _ _ ha hvn.out _).mono ?_; rintro e w' ⟨rfl, rfl⟩))
    go_quiet ((first | (go_at_call 10; exact Calls.quiet_of_same (zzD _ _ ka FD.out _)) | (go_at_call 11; exact Calls.quiet_of_same (dec _ _ hda.out _))))
    have hg : Grown w' (w'.drewN nq) := grown_drewN w' nq
    generalize w'.drewN nq = w1 at hg ⊢
    go_wp2
    go_quiet ((first | (go_at_call 7; exact Calls.quiet_of_same (zzI _ _ ka FI.out _)) | (go_at_call 8; exact Calls.quiet_of_same (idn _ _ hia.out _))))
    go_wp2
    go_ret
    exact ⟨rfl, Grown_drewN hg _⟩

/-! ### STEP 1: THE WALK: the Go text returns true. 'Grown w w'': the world has at most new blocks (Derived/RowKit3.lean). Part the cases AHEAD of 'go_enter' where a test parts the walk; take each callee by a contract of your own. -/
theorem walk (a0 : ByteArray) (w0 : a0.size ≤ maxLen) (w : World) :
    Calls Try.prog 5 #[.string a0] w fun e w' => e = .returned (.bool true) ∧ Grown w w' := by
  by_cases hs : a0.size ≤ 1048576
  · by_cases hA : 0 < a0.size
    · exact walk_n a0 hA hs _ _ rfl rfl _ rfl _ rfl w
    · exact walk_e a0 (by omega) _ _ rfl rfl w
  · exact walk_far a0 w0 (by omega) w

/-! ### THE ROW's STEP: WRITTEN OUT: LEAVE IT -/
set_option maxRecDepth 100000 in
theorem lifted (os : Os) (started : os.Started) (H : Type) (enc : TypeId × Value → H) :
    ReturnsInHanded {} Try.checked os 5 .any (Rows.fnDigitsAreIdentifiersWithoutLettersOrHyphensSpec.pre6 enc Try.prog Try.f5 Rows.fnDigitsAreIdentifiersWithoutLettersOrHyphensRow.domain false) (Rows.fnDigitsAreIdentifiersWithoutLettersOrHyphensSpec.post enc Try.prog Try.f5 false true false false) := by
  refine returnsInHanded_of_change (C := Try.checked) own started (by kernel_rfl) Try.func5
    (ChangeSpec.witness6 (enc := enc) (C := Try.checked) false ⟨#[], #[.string ByteArray.empty], []⟩ 8 (by kernel_rfl) (by kernel_rfl) (by kernel_rfl) (by kernel_rfl)) ?_
  intro W base args ds gs before hval0 hW hcnd _
  have hval : ∀ (j : Nat) t v, Try.f5.params[j]? = some t → args[j]? = some v → Value.okWide Try.prog W .any base t v := hval0
  have hW' := hW
  obtain ⟨p, q, hA0, hV, rfl, hfz, hnd⟩ := hW
  have hA : DataW.TrodAll enc Try.prog W 0 (fun _ => true) true Try.f5.params.toList args.toList ds p := hA0
  rw [Try.params5] at hA hval
  obtain ⟨v0, vs0, d0, ds0, p0, q0, hargs, rfl, rfl, h0, r0⟩ := trodAll_cons hA
  obtain ⟨rfl, rfl, rfl⟩ := trodAll_nil r0
  obtain rfl : args = #[v0] := by cases args; simp_all
  obtain ⟨rfl, rfl⟩ := trodVars_none hV
  obtain ⟨a0, rfl, rfl, rfl, w0⟩ := open_string Try.underlying9 (hval 0 9 v0 rfl rfl) h0
  clear hA0 hval0
  simp only [List.append_nil] at hW'
  refine (walk a0 w0 W).mono fun e W' ⟨he, hg⟩ => ?_
  subst he
  exact ⟨_, rfl, post_of_same (pa := []) (pv := []) hW' (fun _ _ _ => (trodAll_cons_mk (shut_bool Try.underlying4 _) trodAll_mk0)) (fun sp _ => (trodAll_cons_mk (shut_string Try.underlying9 w0) trodAll_mk0)) (fun _ _ => rfl) rfl
    (hg.frame _) hg.2.1 (ok_one (by kernel_rfl) rfl (okWide_bool_mk Try.underlying4 _))⟩

theorem over : Rows.fnDigitsAreIdentifiersWithoutLettersOrHyphensRow.holds Try.pinned (OpenSpec.ofChange Rows.fnDigitsAreIdentifiersWithoutLettersOrHyphensSpec) :=
  OpenClaim.holds_of_wide 5 Try.f5 rfl rfl rfl rfl rfl rfl rfl ⟨rfl, rfl, rfl, rfl, rfl⟩ rfl rfl rfl rfl rfl (by kernel_rfl) Try.func5 (by kernel_rfl)
    (of_decide_eq_true (by kernel_rfl)) (by unfold Func.isWrapper; first | (rw [if_pos (by decide +kernel)]; kernel_rfl) | (rw [if_neg (by decide +kernel)]; exact ⟨rfl, rfl⟩))
    (fun os started H enc _ => lifted os started H enc)

/-- ████ THE STATEMENT ████ -/
theorem proved : Rows.FnDigitsAreIdentifiersWithoutLettersOrHyphensSaid :=
  over
end Go.Proofs.Qxb6619274a.fnDigitsAreIdentifiersWithoutLettersOrHyphens
