/-
  The walk of ZZRunJoin, out of join's contract.
-/
import Derived.Test.Qxb6620807aJoinA
namespace Go.Proofs.Qxb6620807a.Wk
open Go.RowKit
set_option linter.unusedVariables false

/-- what ZZRunJoin leaves -/
def ZPost (w : World) (s : ByteArray) (H : Int → Prop) (N : Nat) (e : Ending) (w' : World) : Prop :=
  ∃ (U' : Int) (L' : Nat) (f' : Nat → Int) (ad' : Option Addr) (cp : Nat), e = .returned (.tuple #[.string s, .int .u64 U', .slice ad' L' cp]) ∧ Rd w' w'.heap.size ad' L' f' ∧ U64 f' ∧ (0 ≤ U' ∧ U' ≤ 18446744073709551615) ∧ L' ≤ N ∧
    Va U' L' f' ∧ (∀ x, Has U' L' f' x ↔ H x) ∧ Below w.heap.size w w'

theorem rd_alloc {w : World} {ad : Option Addr} {L : Nat} {f : Nat → Int} (h : Rd w w.heap.size ad L f) (o : Obj) (n : Nat) : Rd ((w.alloc o).drewN n) ((w.alloc o).drewN n).heap.size ad L f := by
  intro hL
  obtain ⟨b, q, h1, h2, h3⟩ := h hL
  have hz : ((w.alloc o).drewN n).heap.size = w.heap.size + 1 := by show (w.alloc o).heap.size = _; simp
  refine ⟨b, q, h1, by omega, fun i hi => ?_⟩
  rw [← h3 i hi]
  exact ((Below.refl w.heap.size w).alloc (Nat.le_refl _) o).cell (p := ⟨b, q + i, none⟩) h2

set_option maxHeartbeats 2000000 in
theorem zz_join (s : ByteArray) (u1 u2 : Int) (a1 a2 : Option Addr) (l1 c1 l2 c2 : Nat) (U V : Int) (la lb : Nat) (fa fb : Nat → Int) (w : World)
    (h32 : Hid (Calls Try.prog 32 #[.agg #[.string s, .int .u64 u1, .slice a1 l1 c1], .agg #[.string s, .int .u64 u2, .slice a2 l2 c2]] w fun e w' => JPost w s U V la lb fa fb e w')) :
    Calls Try.prog 26 #[.string s, .int .u64 u1, .slice a1 l1 c1, .string s, .int .u64 u2, .slice a2 l2 c2] w fun e w' => ZPost w s (fun x => Has U la fa x ∨ Has V lb fb x) (la + lb) e w' := by
  go_enter Try.func26, Try.ntmps26
  go_wp2_with fail
  refine h32.out.mono ?_
  rintro e w1 ⟨U', L', f', ad', cp, rfl, hRd, hu, hup, hl, hv, hh, hb⟩
  have HF : Hid (∀ o n, ZPost w s (fun x => Has U la fa x ∨ Has V lb fb x) (la + lb) (.returned (.tuple #[.string s, .int .u64 U', .slice ad' L' cp])) ((w1.alloc o).drewN n)) :=
    fun o n => ⟨U', L', f', ad', cp, rfl, rd_alloc hRd o n, hu, hup, hl, hv, hh, by
      have h1 := hb.alloc hb.size o
      exact ⟨h1.os, h1.tape, h1.output, h1.size, h1.block⟩⟩
  clear hRd hu hup hl hv hh hb
  go_wp2
  go_quiet (fail)
  go_wp2
  go_ret3
  exact HF.out _ _
end Go.Proofs.Qxb6620807a.Wk
