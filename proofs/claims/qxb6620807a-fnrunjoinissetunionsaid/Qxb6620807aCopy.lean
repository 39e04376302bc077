/-
  The walk of zzCopyU.
-/
import Derived.Test.Qxb6620807aWalks
import Derived.WalkSpells
namespace Go.Proofs.Qxb6620807a.Wk
open Go.RowKit
set_option linter.unusedVariables false

theorem Try.info41 : (Try.prog.info? 41).map (fun i => (i.zero, i.size, i.bytes)) = some (some (.int .u64 0), 1, 8) := by kernel_rfl

theorem make_u (n : Nat) (h : n ≤ 2097152) (w : World) :
    (Instr.makeSlice 23 (.int .i64 (n : Int)) (.int .i64 (n : Int))).run Try.prog w = .ok (.slice (some ⟨w.heap.size, 0, none⟩) n n) (w.alloc (.cells (madeCells #[.int .u64 0] n) 41)) :=
  run_make_row' (P := Try.prog) 23 41 (.int .u64 0) 8 Try.underlying23 Try.info41 rfl .i64 .i64 n (by omega) (by omega) w

theorem copyU_nil (L cap : Nat) (w : World) : Calls Try.prog 25 #[.slice none L cap] w fun e w' => e = .returned (.slice none 0 0) ∧ w' = w := by
  have hnil := fun w => Lib.run_eql_slice_nil (P := Try.prog) w 23 41 none L cap 0 0 Try.underlying23
  go_enter Try.func25, Try.ntmps25
  go_wp2
  go_ret
  exact ⟨rfl, rfl⟩

/-- what the copy holds after k rounds -/
def cpF (f : Nat → Int) (k i : Nat) : Value := .int .u64 (if i < k then f i else 0)
theorem cpF_step (f : Nat → Int) (k i : Nat) : (if i = k then Value.int .u64 (f k) else cpF f k i) = cpF f (k + 1) i := by
  unfold cpF
  by_cases h : i = k
  · subst h; simp
  · by_cases h2 : i < k
    · have : i < k + 1 := by omega
      simp [h, h2, this]
    · have : ¬ i < k + 1 := by omega
      simp [h, h2, this]
theorem cpF_full (f : Nat → Int) (k i : Nat) (h : i < k) : cpF f k i = .int .u64 (f i) := by unfold cpF; simp [h]
theorem cpF_new (f : Nat → Int) (k i : Nat) (h : k ≤ i) : cpF f k i = .int .u64 0 := by
  unfold cpF; rw [if_neg (by omega)]

set_option maxHeartbeats 2000000 in
theorem copyU (A0 : Addr) (L cap : Nat) (f : Nat → Int) (hn : L ≤ 1048576) (w : World) (hR : Hid (Rd w w.heap.size (some A0) L f)) :
    Calls Try.prog 25 #[.slice (some A0) L cap] w fun e w' => e = .returned (.slice (some ⟨w.heap.size, 0, none⟩) L L) ∧ w'.rowIs w.heap.size 41 L (fun i => .int .u64 (f i)) ∧ Below w.heap.size w w' ∧ w'.heap.size = w.heap.size + 1 := by
  have hnil := fun w => Lib.run_eql_slice_nil (P := Try.prog) w 23 41 (some A0) L cap 0 0 Try.underlying23
  have hmk := make_u L (by omega)
  have hst : Hid ((w.alloc (.cells (madeCells #[.int .u64 0] L) 41)).rowIs w.heap.size 41 L (cpF f 0)) :=
    (World.rowIs_made w (.int .u64 0) L 41).congr (fun i _ => by rw [cpF_new]; omega)
  have hb0 : Hid (Below w.heap.size w (w.alloc (.cells (madeCells #[.int .u64 0] L) 41))) := (Below.refl _ _).alloc (Nat.le_refl _) _
  by_cases h0 : L = 0
  · subst h0
    have hmk0 : ∀ w, (Instr.makeSlice 23 (.int .i64 0) (.int .i64 0)).run Try.prog w = .ok (.slice (some ⟨w.heap.size, 0, none⟩) 0 0) (w.alloc (.cells (madeCells #[.int .u64 0] 0) 41)) := fun w => make_u 0 (by omega) w
    clear hmk
    go_enter Try.func25, Try.ntmps25
    go_wp2
    refine wp_loop_rounds 1 ?_
    rw [rounds_succ]
    go_wp2
    go_ret
    exact ⟨rfl, hst.out.congr (fun i hi => absurd hi (by omega)), hb0.out, by simp⟩
  · have hlen : 0 < L := by omega
    clear h0
    obtain ⟨b, o, hA, hbB, hc'⟩ := hR.out hlen
    cases hA
    have hc : Hid (∀ i, i < L → w.cell? ⟨b, o + i, none⟩ = some (.int .u64 (f i))) := hc'
    clear hc'
    go_enter Try.func25, Try.ntmps25
    go_wp2
    go_loopw [4] (fun i wr => ∃ k : Nat, k ≤ L ∧ i = .int .i64 k ∧ wr.rowIs w.heap.size 41 L (cpF f k) ∧ Below w.heap.size w wr ∧ wr.heap.size = w.heap.size + 1) (fun i _ => L - (intOf i).toNat)
    case atStart => exact ⟨0, Nat.zero_le _, rfl, hst.out, hb0.out, by simp⟩
    case round =>
      clear hnil hmk hst hb0
      obtain ⟨k, hk, rfl, hrow, hbel, hsz⟩ := hrel
      have Hsz : Hid (wr.heap.size = w.heap.size + 1) := hsz
      clear hsz
      by_cases hlt : k < L
      · have hltI : (k : Int) < (L : Int) := by omega
        have c1 : wr.cell? ⟨b, o + k, none⟩ = some (.int .u64 (f k)) := (hbel.cell (by exact hbB)).trans (hc.out k hlt)
        have c2 : wr.cell? ⟨w.heap.size, k, none⟩ = some (.int .u64 0) := by
          rw [hrow.cell (i := k) hlt, cpF_new]; omega
        have c3 := hrow.frozen k
        have HR : Hid ((wr.setCell ⟨w.heap.size, k, none⟩ (.int .u64 (f k))).rowIs w.heap.size 41 L (cpF f (k + 1))) :=
          (hrow.set k (.int .u64 (f k))).congr (fun i _ => cpF_step f k i)
        clear hrow
        go_wp2
        go_roundw
        case rel => exact ⟨k + 1, by omega, by go_num, HR.out, hbel.setCell (Nat.le_refl _) _, by simp [World.setCell]; exact Hsz.out⟩
        case measure => simp [intOf]; omega
      · have HR : Hid (wr.rowIs w.heap.size 41 L (fun i => .int .u64 (f i))) := hrow.congr (fun i hi => cpF_full f k i (by omega))
        clear hrow
        go_wp2
        go_ret
        exact ⟨rfl, HR.out, hbel, Hsz.out⟩
end Go.Proofs.Qxb6620807a.Wk
