/-
  The walk of absorb: through a pointer to the run's three cells.
-/
import Derived.Test.Qxb6620807aPts
import Derived.Deep.LoopGhost
namespace Go.Proofs.Qxb6620807a.Wk
open Go.RowKit
set_option linter.unusedVariables false

/-- all blocks but S are as they were -/
structure Only (S : Nat) (w w' : World) : Prop where
  os : w'.os = w.os
  tape : w'.tape = w.tape
  output : w'.output = w.output
  size : w'.heap.size = w.heap.size
  block : ∀ k, k ≠ S → w'.heap[k]? = w.heap[k]?
theorem Only.refl (S : Nat) (w : World) : Only S w w := ⟨rfl, rfl, rfl, rfl, fun _ _ => rfl⟩
theorem Only.drewN {S : Nat} {w w' : World} (h : Only S w w') (n : Nat) : Only S w (w'.drewN n) := ⟨h.os, h.tape, h.output, h.size, h.block⟩
theorem Only.setCell {S : Nat} {w w' : World} (h : Only S w w') (o : Nat) (v : Value) : Only S w (w'.setCell ⟨S, o, none⟩ v) :=
  ⟨h.os, h.tape, h.output, by simp [World.setCell]; exact h.size, fun k hk => (Below.heap_setCell _ _ _ _ hk).trans (h.block k hk)⟩
theorem Only.cell {S : Nat} {w w' : World} (h : Only S w w') {b o : Nat} (hb : b ≠ S) : w'.cell? ⟨b, o, none⟩ = w.cell? ⟨b, o, none⟩ := World.cell?_of_block (w := w) (h.block b hb)

/-- the three cells of a run -/
def runF (s : ByteArray) (up : Int) (v : Value) (i : Nat) : Value := if i = 0 then .string s else if i = 1 then .int .u64 up else v

theorem pre_le (up : Int) (c : Nat) (f : Nat → Int) (d : Nat) (hd : d < c) (hasc : Asc c f) (hgt : ∀ i, i < c → up < f i) (hpre : ∀ i, i < d → f i = up + 1 + i) : up + d + 1 ≤ f d := by
  cases d with
  | zero => have := hgt 0 hd; simp; omega
  | succ d =>
    have h1 := hasc d (d + 1) (by omega) hd
    have h2 := hpre d (by omega)
    omega
theorem run_step {S : Nat} {s : ByteArray} {up : Int} {d : Nat} {v0 : Value} {wr : World} (h : wr.rowIs S 54 3 (runF s (up + d) v0)) (nq : Nat) (v : Value) :
    (((wr.drewN nq).setCell ⟨S, 1, none⟩ (.int .u64 (up + d + 1))).setCell ⟨S, 2, none⟩ v).rowIs S 54 3 (runF s (up + ((d + 1 : Nat) : Int)) v) := by
  have h1 : (wr.drewN nq).rowIs S 54 3 (runF s (up + d) v0) := h
  refine ((h1.set 1 _).set 2 _).congr ?_
  intro i hi
  have e : up + ((d + 1 : Nat) : Int) = up + d + 1 := by omega
  rw [e]
  match i, hi with
  | 0, _ => simp [runF]
  | 1, _ => simp [runF]
  | 2, _ => simp [runF]

set_option maxHeartbeats 4000000 in
theorem absorb (S R : Nat) (hSR : R ≠ S) (s : ByteArray) (up : Int) (c N : Nat) (f : Nat → Int) (ad : Option Addr) (w : World) (hup : 0 ≤ up ∧ up ≤ 18446744073709551615)
    (hz : Hid (U64 f)) (hasc : Hid (Asc c f)) (hgt : Hid (∀ i, i < c → up < f i)) (hc : c ≤ N) (hN : N ≤ 2097152) (hrow : Hid (w.rowIs S 54 3 (runF s up (.slice ad c N)))) (had : 0 < c → ad = some ⟨R, 0, none⟩)
    (hcell : Hid (∀ i, i < c → w.cell? ⟨R, i, none⟩ = some (.int .u64 (f i)))) :
    Calls Try.prog 39 #[.pointer (some ⟨S, 0, none⟩)] w fun e w' => e = .returned (.tuple #[]) ∧ ∃ (d : Nat) (ad' : Option Addr) (cp : Nat), d ≤ c ∧ (∀ i, i < d → f i = up + 1 + i) ∧ (d < c → f d ≠ up + d + 1) ∧
      w'.rowIs S 54 3 (runF s (up + d) (.slice ad' (c - d) cp)) ∧ (d < c → ad' = some ⟨R, d, none⟩) ∧ Only S w w' := by
  go_enter Try.func39, Try.ntmps39
  go_wp2
  go_loopg [2] c (fun g _ wr => ∃ (d m cp : Nat) (ad' : Option Addr), g = m ∧ d + m = c ∧ m ≤ cp ∧ cp ≤ N ∧ Hid (∀ i, i < d → f i = up + 1 + i) ∧ Hid (wr.rowIs S 54 3 (runF s (up + d) (.slice ad' m cp))) ∧ (0 < m → ad' = some ⟨R, d, none⟩) ∧ Hid (Only S w wr))
  case atStart => exact ⟨0, c, N, ad, rfl, by omega, hc, Nat.le_refl _, fun i hi => absurd hi (by omega), by rw [Int.natCast_zero, Int.add_zero]; exact hrow, had, Only.refl _ _⟩
  case round =>
    obtain ⟨d, m, cp, ad', hg, hdm, hmc, hcN, hpre, hrw, hadr, hon⟩ := hrel
    subst hg
    have k0 := hrw.out.frozen 1
    have k1 := hrw.out.frozen 2
    have r1 : wr.cell? ⟨S, 1, none⟩ = some (.int .u64 (up + d)) := hrw.out.cell (i := 1) (by omega)
    have r2 : wr.cell? ⟨S, 2, none⟩ = some (.slice ad' gk cp) := hrw.out.cell (i := 2) (by omega)
    by_cases hm : 0 < gk
    · have ea := hadr hm
      subst ea
      have r3 : wr.cell? ⟨R, d, none⟩ = some (.int .u64 (f d)) := (hon.out.cell hSR).trans (hcell.out d (by omega))
      have hmI : (0 : Int) < (gk : Int) := by omega
      have i1 : (1 : Int) ≤ (gk : Int) := by omega
      have zd := hz.out d
      have gd := hgt.out d (by omega)
      have zb : up + d + 1 ≤ 18446744073709551615 := Int.le_trans (pre_le up c f d (by omega) hasc.out hgt.out hpre.out) zd.2
      have hpre' : Hid ((f d == up + d + 1) = true → ∀ i, i < d + 1 → f i = up + 1 + i) := fun he i hi => by
        by_cases h9 : i < d
        · exact hpre.out i h9
        · have e9 : i = d := by omega
          subst e9
          have := beq_iff_eq.1 he
          omega
      by_cases he : (f d == up + d + 1) = true
      · have hrw' : Hid (∀ nq v, (((wr.drewN nq).setCell ⟨S, 1, none⟩ (.int .u64 (up + d + 1))).setCell ⟨S, 2, none⟩ v).rowIs S 54 3 (runF s (up + ((d + 1 : Nat) : Int)) v)) := fun nq v => run_step hrw.out nq v
        have hon' : Hid (∀ nq v, Only S w (((wr.drewN nq).setCell ⟨S, 1, none⟩ (.int .u64 (up + d + 1))).setCell ⟨S, 2, none⟩ v)) := fun nq v => ((hon.out.drewN nq).setCell 1 _).setCell 2 _
        by_cases hcp : cp = 1
        · subst hcp
          go_wp2
          go_quiet (fail)
          go_wp2
          go_roundg 0
          case measure => omega
          case rel => exact ⟨d + 1, 0, 0, _, rfl, by omega, by omega, by omega, hpre'.out he, hrw'.out _ _, fun h => absurd h (by omega), hon'.out _ _⟩
        · go_wp2
          go_quiet (fail)
          go_wp2
          go_roundg (gk - 1)
          case measure => omega
          case rel => exact ⟨d + 1, gk - 1, cp - 1, _, rfl, by omega, by omega, by omega, hpre'.out he, hrw'.out _ _, fun _ => rfl, hon'.out _ _⟩
      · have he' : (f d == up + d + 1) = false := Bool.eq_false_iff.2 he
        have hne : Hid (f d ≠ up + d + 1) := fun h => he (beq_iff_eq.2 h)
        have hfin : Hid (∀ nq, ∃ (d : Nat) (ad' : Option Addr) (cp : Nat), d ≤ c ∧ (∀ i, i < d → f i = up + 1 + i) ∧ (d < c → f d ≠ up + d + 1) ∧
            (wr.drewN nq).rowIs S 54 3 (runF s (up + d) (.slice ad' (c - d) cp)) ∧ (d < c → ad' = some ⟨R, d, none⟩) ∧ Only S w (wr.drewN nq)) :=
          fun nq => ⟨d, _, cp, by omega, hpre.out, fun _ => hne.out, by rw [show c - d = gk from by omega]; exact hrw.out, fun _ => rfl, hon.out.drewN nq⟩
        clear he
        go_wp2
        go_quiet (fail)
        go_wp2
        go_end0
        exact ⟨rfl, hfin.out _⟩
    · have hmI : decide (0 < gk) = false := by rw [decide_eq_false_iff_not]; omega
      have hfin : Hid (∀ nq, ∃ (d : Nat) (ad' : Option Addr) (cp : Nat), d ≤ c ∧ (∀ i, i < d → f i = up + 1 + i) ∧ (d < c → f d ≠ up + d + 1) ∧
            (wr.drewN nq).rowIs S 54 3 (runF s (up + d) (.slice ad' (c - d) cp)) ∧ (d < c → ad' = some ⟨R, d, none⟩) ∧ Only S w (wr.drewN nq)) :=
          fun nq => ⟨d, ad', cp, by omega, hpre.out, fun h => absurd h (by omega), by rw [show c - d = gk from by omega]; exact hrw.out, fun h => absurd h (by omega), hon.out.drewN nq⟩
      go_wp2
      go_quiet (fail)
      go_wp2
      go_end0
      exact ⟨rfl, hfin.out _⟩
end Go.Proofs.Qxb6620807a.Wk
