/-
  A slice of float64 that came in, opened.
-/
import Derived.Test.Qxb6621747aZZ
import Derived.OpenShut
import Derived.ShutString
import Derived.ChangeOld
import Derived.Below
import Derived.Deep.Slices
import Derived.Laws.Cover2
namespace Go.Proofs.Qxb6621747a.Wk
open Go.ChangeShapes Go.WideShapes Go.ChangeAt Go.RowKit Go.Deep
open Fp
set_option linter.unusedVariables false

theorem trod_f {H : Type} {enc : TypeId × Value → H} {P : Program} {w : World} {base : Nat} {spare : Nat → Bool} {held : Bool} {t : TypeId} {fuel : Nat} {cs : List Value} {x : DataW H × List MemPlace} {k : FloatKind}
    (ht : P.underlying t = some (.float k)) (h : DataW.trod enc P w base spare held fuel t cs = some x) : ∃ n, cs = [.float k n] ∧ (Lit.float k n).wf = true := by
  cases fuel with
  | zero => simp [DataW.trod] at h
  | succ n =>
    unfold DataW.trod at h
    rw [ht] at h
    split at h <;> simp_all

/-- what the walk is told of a slice of floats that came in -/
def IsF (w : World) (a : Option Addr) (len cap : Nat) (f : Nat → Nat) : Prop := (a = none → len = 0 ∧ cap = 0) ∧ len ≤ maxLen ∧ Rd w w.heap.size a len f ∧ W64 f

theorem open_floats {H : Type} {enc : TypeId × Value → H} {w : World} {base : Nat} {spare : Nat → Bool} {held : Bool} {fuel : Nat} {a : Option Addr} {len cap : Nat} {x : DataW H × List MemPlace}
    (hs : ∀ b, spare b = true) (h : DataW.trod enc Try.prog w base spare held fuel 22 (Value.slice a len cap).cells.toList = some x) : ∃ f, IsF w a len cap f := by
  rcases open_slice1 Try.underlying22 (by kernel_rfl) h with ⟨hcs, _⟩ | ⟨A, l, c, m, n, V, D, Pl, hcs, _, hl, hm, hmm, _, hx⟩
  · simp [Value.cells] at hcs
    obtain ⟨rfl, rfl, rfl⟩ := hcs
    exact ⟨fun _ => 0, fun _ => ⟨rfl, rfl⟩, Nat.zero_le _, fun h => absurd h (by omega), fun _ => by show 0 < _; omega⟩
  · simp [Value.cells] at hcs
    obtain ⟨rfl, rfl, rfl⟩ := hcs
    rw [if_pos (hs _)] at hmm
    subst hmm
    have hF : ∀ i, i < m → ∃ n : Nat, V i = .float .f64 n ∧ n < 18446744073709551616 := by
      intro i hi
      obtain ⟨n, e, hw⟩ := trod_f Try.underlying26 (hx i hi).2
      have e2 : V i = .float .f64 n := by simpa using e
      refine ⟨n, e2, ?_⟩
      simpa [Lit.wf] using hw
    have hG : ∃ f : Nat → Nat, ∀ i, (i < m → V i = .float .f64 (f i)) ∧ f i < 18446744073709551616 := by
      refine ⟨fun i => if h : i < m then (hF i h).choose else 0, fun i => ?_⟩
      by_cases h : i < m
      · simp only [dif_pos h]
        exact ⟨fun _ => (hF i h).choose_spec.1, (hF i h).choose_spec.2⟩
      · simp only [dif_neg h]
        exact ⟨fun h2 => absurd h2 h, by omega⟩
    obtain ⟨f, hf⟩ := hG
    refine ⟨f, (fun h => by cases h), by omega, ?_, fun i => (hf i).2⟩
    intro h0
    have hc : ∀ i, i < m → w.cell? (A.add i) = some (.float .f64 (f i)) := fun i hi => by rw [(hx i hi).1, (hf i).1 hi]
    obtain ⟨b, off, spot⟩ := A
    have hspot : spot = none := by simpa [Addr.add] using World.cell?_spot (hc 0 (by omega))
    subst hspot
    have hc2 : ∀ i, i < m → w.cell? ⟨b, off + i, none⟩ = some (.float .f64 (f i)) := fun j hj => by rw [← Go.WideShapes.add_plain]; exact hc j hj
    refine ⟨b, off, rfl, ?_, fun i hi => hc2 i (by omega)⟩
    have h1 := hc2 0 (by omega)
    refine Nat.lt_of_not_le fun hge => ?_
    have : w.heap[b]? = none := Array.getElem?_eq_none hge
    simp [World.cell?, this] at h1
end Go.Proofs.Qxb6621747a.Wk
