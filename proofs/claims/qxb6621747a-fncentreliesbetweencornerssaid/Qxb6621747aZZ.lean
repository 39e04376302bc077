/-
  The walks of ZZCentre, of the two byte counters; the builtin copy.
-/
import Derived.Test.Qxb6621747aCentre
import Derived.Laws.CopyOwn
import Derived.Deep.Cut
import Derived.Deep.CutRange
import Derived.Deep.DeepCutAuto
namespace Go.Proofs.Qxb6621747a.Wk
open Go.RowKit
open Fp
set_option linter.unusedVariables false

theorem zz (a b : Option Addr) (la ca lb cb : Nat) (fa fb : Nat → Nat) (n : Nat) (hn : Hid (n = if la = lb then la else 0)) (hla : la ≤ 1048576) (hlb : lb ≤ 1048576) (w : World)
    (hRa : Hid (Rd w w.heap.size a la fa)) (hRb : Hid (Rd w w.heap.size b lb fb)) :
    Calls Try.prog 6 #[.slice a la ca, .slice b lb cb] w fun e w' => CPost w n fa fb e w' := by
  go_enter Try.func6, Try.ntmps6
  go_wp2_with (go_at_call 11; refine (centre a b la ca lb cb fa fb n hn hla hlb _ hRa hRb).mono ?_; rintro e w' ⟨g, ad, rfl, h1, h2, h3, h4⟩)
  go_ret
  exact ⟨g, ad, rfl, h1, h2, h3, h4⟩

def fits2 (a b : Nat) : Bool := decide (a + b ≤ 1048576)
theorem bytes9 (a b : Option Addr) (la ca lb cb : Nat) (w : World) (hla : la ≤ maxLen) (hlb : lb ≤ maxLen) :
    Calls Try.prog 9 #[.slice a la ca, .slice b lb cb] w fun e w' => e = .returned (.bool (fits2 la lb)) ∧ w' = w := by
  unfold maxLen at hla hlb
  by_cases h1 : la ≤ 1048576
  · by_cases h2 : lb ≤ 1048576
    · by_cases h3 : la + lb ≤ 1048576
      · go_enter Try.func9, Try.ntmps9
        go_wp2
        go_ret
        exact ⟨ret_bool (by simp [fits2]; omega), rfl⟩
      · go_enter Try.func9, Try.ntmps9
        go_wp2
        go_ret
        exact ⟨ret_bool (by simp [fits2]; omega), rfl⟩
    · go_enter Try.func9, Try.ntmps9
      go_wp2
      go_ret
      exact ⟨ret_bool (by simp [fits2]; omega), rfl⟩
  · go_enter Try.func9, Try.ntmps9
    go_wp2
    go_ret
    exact ⟨ret_bool (by simp [fits2]; omega), rfl⟩

theorem bytes5 (a b : Option Addr) (la ca lb cb : Nat) (k : Int) (w : World) (hla : la ≤ maxLen) (hlb : lb ≤ maxLen) :
    Calls Try.prog 5 #[.slice a la ca, .slice b lb cb, .int .i64 k] w fun e w' => e = .returned (.bool (fits2 la lb)) ∧ w' = w := by
  unfold maxLen at hla hlb
  by_cases h1 : la ≤ 1048576
  · by_cases h2 : lb ≤ 1048576
    · by_cases h3 : la + lb ≤ 1048576
      · go_enter Try.func5, Try.ntmps5
        go_wp2
        go_ret
        exact ⟨ret_bool (by simp [fits2]; omega), rfl⟩
      · go_enter Try.func5, Try.ntmps5
        go_wp2
        go_ret
        exact ⟨ret_bool (by simp [fits2]; omega), rfl⟩
    · go_enter Try.func5, Try.ntmps5
      go_wp2
      go_ret
      exact ⟨ret_bool (by simp [fits2]; omega), rfl⟩
  · go_enter Try.func5, Try.ntmps5
    go_wp2
    go_ret
    exact ⟨ret_bool (by simp [fits2]; omega), rfl⟩


/-- the builtin copy, as a law at the call -/
theorem wpList_copy_run {P : Program} {w w' : World} {v : Value} {ops : Array Oper} {rest : List Oper} {o : Oper} {a : Act} {Q : Exit → Act → World → Prop} (hgd : o.guard = none) (d s : Operand) (dT sT : TypeId)
    (ho : o.op = .call { callee := .builtin .copy, args := #[d, s], argTypes := #[dT, sT] }) (vd vs : Value) (hd : a.eval d = vd) (hs : a.eval s = vs)
    (hrun : (Builtin.copy_ #[dT, sT] o.type #[vd, vs]).run P w = .ok v w')
    (h : wpList P ops Q rest (a.put o.dst v) w') : wpList P ops Q (o :: rest) a w := by
  refine wpList_plain hgd fun K hK => ?_
  unfold Oper.wp
  simp [execOp, ho, resolve, invoke, builtin, hd, hs, hrun, Result.andThen]
  exact hK _ _ h

theorem below_setCells {B : Nat} {w : World} (b : Nat) (hb : B ≤ b) : ∀ (vs : List Value) (o : Nat) (w1 : World), Below B w w1 → Below B w (w1.setCells b o vs)
  | [], _, _, h => h
  | v :: vs, o, w1, h => below_setCells b hb vs (o + 1) _ (h.setCell (by simpa using hb) v)
theorem size_setCells (b : Nat) : ∀ (vs : List Value) (o : Nat) (w1 : World), (w1.setCells b o vs).heap.size = w1.heap.size
  | [], _, _ => rfl
  | v :: vs, o, w1 => (size_setCells b vs (o + 1) _).trans (by simp [World.setCell])

/-- a copy of a slice into a new row -/
theorem copyF (w : World) (A : Option Addr) (L cap : Nat) (f : Nat → Nat) (hR : Rd w w.heap.size A L f) (T : TypeId) :
    ∃ w', (Builtin.copy_ #[22, 22] T #[.slice (some ⟨w.heap.size, 0, none⟩) L L, .slice A L cap]).run Try.prog (w.alloc (.cells (madeCells #[.float .f64 0] L) 26)) = .ok (goInt L) w' ∧
      Rd w' w'.heap.size (some ⟨w.heap.size, 0, none⟩) L f ∧ Below w.heap.size w w' ∧ w'.heap.size = w.heap.size + 1 := by
  have hs1 : (Try.prog.info? 26).map (·.size) = some 1 := by
    have := Try.info26
    cases h : Try.prog.info? 26 with
    | none => rw [h] at this; cases this
    | some i => rw [h] at this; simp at this; simp [this]
  have hb0 : Below w.heap.size w (w.alloc (.cells (madeCells #[.float .f64 0] L) 26)) := (Below.refl _ _).alloc (Nat.le_refl _) _
  by_cases h0 : L = 0
  · subst h0
    refine ⟨_, run_copy_none (P := Try.prog) _ 22 22 T 26 _ _ 0 0 0 cap Try.underlying22 hs1 rfl, fun h => absurd h (by omega), hb0, by simp⟩
  · obtain ⟨b, o, rfl, hb, hc⟩ := hR (by omega)
    have hrow := World.rowIs_made w (.float .f64 0) L 26
    have hlen : ((List.range L).map (fun i => Value.float .f64 (f i))).length = L := by simp
    have hin : ∀ j, j < ((List.range L).map (fun i => Value.float .f64 (f i))).length → ((w.alloc (.cells (madeCells #[.float .f64 0] L) 26)).cell? ⟨w.heap.size, 0 + j, none⟩).isSome = true := by
      intro j hj
      rw [hlen] at hj
      rw [Nat.zero_add, hrow.cell hj]; rfl
    have hrun := run_copy_cells (P := Try.prog) (w.alloc (.cells (madeCells #[.float .f64 0] L) 26)) 22 22 T 26 w.heap.size 0 L L ⟨b, o, none⟩ L cap ((List.range L).map (fun i => Value.float .f64 (f i))) Try.underlying22 hs1 (by rw [hlen]; exact (Nat.min_self L).symm)
      (by
        intro j v hv
        have hj : j < L := by
          have := List.getElem?_eq_some_iff.1 hv
          obtain ⟨h, _⟩ := this
          simpa using h
        have e : v = .float .f64 (f j) := by
          simp [hj] at hv
          exact hv.symm
        have e2 : (⟨b, o, none⟩ : Addr).add j = ⟨b, o + j, none⟩ := by simp [Addr.add]
        rw [e, e2]
        exact (hb0.cell (p := ⟨b, o + j, none⟩) hb).trans (hc j hj))
      hin
      (by intro j hj; exact hrow.frozen _)
      (by intro v hv; simp at hv; obtain ⟨i, _, rfl⟩ := hv; rfl)
    rw [hlen] at hrun
    refine ⟨_, hrun, ?_, below_setCells _ (Nat.le_refl _) _ _ _ hb0, by rw [size_setCells]; simp⟩
    intro _
    refine ⟨_, _, rfl, by rw [size_setCells]; simp, ?_⟩
    intro i hi
    rw [World.cell?_setCells_in _ _ _ _ hin i (by rw [hlen]; exact hi)]
    simp
end Go.Proofs.Qxb6621747a.Wk
