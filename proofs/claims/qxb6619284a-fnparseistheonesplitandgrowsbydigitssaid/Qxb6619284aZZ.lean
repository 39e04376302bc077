/-
  The walk of ZZparse: parse's result spread into plain values.
-/
import Derived.Test.Qxb6619284aParse
namespace Go.Proofs.Qxb6619284a.Zz
open Go.RowKit
open Pl Wk Lb Ps
set_option linter.unusedVariables false

def P10 (s : ByteArray) (w : World) (T : Int) (M m : ByteArray) (ok : Bool) : Prop :=
    Calls Try.prog 10 #[.string s] w fun e w' => e = .returned (.tuple #[.int .i64 T, .string M, .string m, .bool ok]) ∧ Below w.heap.size w w'

set_option maxHeartbeats 1000000 in
theorem ZZparse (s : ByteArray) (T : Int) (M m : ByteArray) (ok : Bool) (h13 : Hid (∀ w, P13 s w T M m ok)) (w : World) : P10 s w T M m ok := by
  unfold P10
  go_enter Try.func10, Try.ntmps10
  go_wp2_with fail
  refine (h13.out _).mono ?_
  rintro e w1 ⟨rfl, hb⟩
  go_wp2
  go_quiet (fail)
  go_wp2
  exact bodyPost_ret (v := .tuple #[.int .i64 T, .string M, .string m, .bool ok]) (by simp [results, Try.results10, go_sem]) rfl ⟨rfl, below_drewN' (hb.alloc hb.size _) _⟩
end Go.Proofs.Qxb6619284a.Zz
