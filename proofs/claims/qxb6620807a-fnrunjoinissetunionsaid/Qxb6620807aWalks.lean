/-
  The walks of the functions that only read a slice of counters: zzRunValid, zzRunHas.
-/
import Derived.Test.Qxb6620807aProg
import Derived.WalkKit
import Derived.ProofKit
import Derived.WalkLawsBesides
import Derived.BigQuiet
import Derived.Deep.QuietTactic
import Derived.Deep.RegionWith
import Derived.Deep.OwnRows
import Derived.Deep.RegionLaw
namespace Go.Proofs.Qxb6620807a.Wk
open Go.RowKit
set_option linter.unusedVariables false

/-- What a walk is told of a slice of L counters: where it is not empty its cells lie below block B, the numbers 'f'. -/
def Rd (w : World) (B : Nat) (ad : Option Addr) (L : Nat) (f : Nat → Int) : Prop :=
  0 < L → ∃ b o, ad = some ⟨b, o, none⟩ ∧ b < B ∧ ∀ i, i < L → w.cell? ⟨b, o + i, none⟩ = some (.int .u64 (f i))
def U64 (f : Nat → Int) : Prop := ∀ i, 0 ≤ f i ∧ f i ≤ 18446744073709551615
/-- strictly ascending, the first at least up + 2 -/
def Va (up : Int) (L : Nat) (f : Nat → Int) : Prop := ∀ k, k < L → (if k = 0 then up + 1 else f (k - 1)) < f k

theorem ret_bool {a b : Bool} (h : a = b) : Ending.returned (.bool a) = .returned (.bool b) := by rw [h]

set_option maxHeartbeats 2000000 in
theorem runValid (up : Int) (ad : Option Addr) (L cap : Nat) (f : Nat → Int) (v : Bool) (hup : 0 ≤ up ∧ up ≤ 18446744073709551615) (hz : Hid (U64 f)) (hn : L ≤ 1048576) (w : World) (B : Nat) (hR : Hid (Rd w B ad L f))
    (hv : Hid (Va up L f ↔ v = true)) :
    Calls Try.prog 24 #[.int .u64 up, .slice ad L cap] w fun e w' => e = .returned (.bool v) ∧ ∃ n, w' = w.drewN n := by
  by_cases h0 : L = 0
  · subst h0
    have hv' : Hid (v = true) := hv.out.1 (fun k hk => absurd hk (by omega))
    go_enter Try.func24, Try.ntmps24
    go_wp2
    refine wp_loop_rounds 1 ?_
    rw [rounds_succ]
    go_wp2
    go_ret
    exact ⟨ret_bool hv'.out.symm, 0, rfl⟩
  · have hlen : 0 < L := by omega
    clear h0
    obtain ⟨b, o, rfl, _, hc'⟩ := hR.out hlen
    have hc : Hid (∀ i, i < L → w.cell? ⟨b, o + i, none⟩ = some (.int .u64 (f i))) := hc'
    clear hc'
    have hlenI : (0 : Int) < (L : Int) := by omega
    go_enter Try.func24, Try.ntmps24
    go_wp2
    go_loopw [5] (fun i wr => ∃ k : Nat, k ≤ L ∧ i = .int .i64 k ∧ Hid (∀ t, t < k → (if t = 0 then up + 1 else f (t - 1)) < f t) ∧ ∃ n, wr = w.drewN n) (fun i _ => L - (intOf i).toNat)
    case atStart => exact ⟨0, Nat.zero_le _, rfl, fun t ht => absurd ht (by omega), 0, rfl⟩
    case round =>
      obtain ⟨k, hk, rfl, ha, n, rfl⟩ := hrel
      by_cases hlt : k < L
      · cases k with
        | zero =>
          have c0 : w.cell? ⟨b, o, none⟩ = some (.int .u64 (f 0)) := hc.out 0 hlen
          have z0 := hz.out 0
          by_cases t1 : f 0 ≤ up
          · have hv' : Hid (v = false) := by
              have : ¬ v = true := fun h => by have := hv.out.2 h 0 hlen; simp at this; omega
              exact Bool.eq_false_iff.2 this
            go_wp2
            go_ret
            exact ⟨ret_bool hv'.out.symm, n, rfl⟩
          · by_cases t2 : f 0 - up < 2
            · have hv' : Hid (v = false) := by
                have : ¬ v = true := fun h => by have := hv.out.2 h 0 hlen; simp at this; omega
                exact Bool.eq_false_iff.2 this
              go_wp2
              go_ret
              exact ⟨ret_bool hv'.out.symm, n, rfl⟩
            · go_wp2
              go_roundw
              case rel => exact ⟨1, by omega, by go_num, fun t ht => by have : t = 0 := by omega
                                                                        subst this; simp; omega, n, rfl⟩
              case measure => simp [intOf]; omega
        | succ k =>
          have i1 : (k : Int) + 1 < (L : Int) := by omega
          have i2 : (k : Int) < (L : Int) := by omega
          have i3 : (0 : Int) ≤ (k : Int) + 1 := by omega
          have c1 : w.cell? ⟨b, o + (k + 1), none⟩ = some (.int .u64 (f (k + 1))) := hc.out (k + 1) hlt
          have c0 : w.cell? ⟨b, o + k, none⟩ = some (.int .u64 (f k)) := hc.out k (by omega)
          have e1 : (((k + 1 : Nat) : Int) == 0) = false := beq_eq_false_iff_ne.2 (by omega)
          have e2 : ((k + 1 : Nat) : Int) - 1 = (k : Int) := by omega
          by_cases t1 : f (k + 1) ≤ f k
          · have hv' : Hid (v = false) := by
              have : ¬ v = true := fun h => by have := hv.out.2 h (k + 1) hlt; simp at this; omega
              exact Bool.eq_false_iff.2 this
            go_wp2
            go_quiet (fail)
            go_wp2
            go_ret
            exact ⟨ret_bool hv'.out.symm, n + nq, by rw [World.drewN_drewN]⟩
          · go_wp2
            go_quiet (fail)
            go_wp2
            go_roundw
            case rel => exact ⟨k + 1 + 1, by omega, by go_num, fun t ht => by
                                                                by_cases h9 : t < k + 1
                                                                · exact ha.out t h9
                                                                · have : t = k + 1 := by omega
                                                                  subst this; simp; omega, _, rfl⟩
            case measure => simp [intOf]; omega
      · have hv' : Hid (v = true) := hv.out.1 (fun t ht => ha.out t (by omega))
        go_wp2
        go_ret
        exact ⟨ret_bool hv'.out.symm, n, rfl⟩

/-- 'the run holds x' -/
def Has (up : Int) (L : Nat) (f : Nat → Int) (x : Int) : Prop := (1 ≤ x ∧ x ≤ up) ∨ ∃ i, i < L ∧ f i = x
/-- ascending -/
def Asc (L : Nat) (f : Nat → Int) : Prop := ∀ i j, i < j → j < L → f i < f j

theorem has_at (up : Int) (L : Nat) (f : Nat → Int) (x : Int) (lo : Nat) (ha : Asc L f) (hx : ¬ (1 ≤ x ∧ x ≤ up)) (h1 : ∀ i, i < lo → f i < x) (h2 : ∀ i, lo ≤ i → i < L → x ≤ f i) : Has up L f x ↔ (lo < L ∧ f lo = x) := by
  constructor
  · rintro (h | ⟨i, hi, rfl⟩)
    · exact absurd h hx
    · by_cases h3 : i < lo
      · have := h1 i h3; omega
      · have h4 := h2 lo (by omega) (by omega)
        by_cases h5 : lo = i
        · exact ⟨by omega, by rw [h5]⟩
        · have := ha lo i (by omega) hi; omega
  · rintro ⟨h3, h4⟩
    exact .inr ⟨lo, h3, h4⟩

set_option maxHeartbeats 2000000 in
theorem runHas (up : Int) (ad : Option Addr) (L cap : Nat) (f : Nat → Int) (x : Int) (v : Bool) (hn : L ≤ 1048576) (w : World) (B : Nat) (hR : Hid (Rd w B ad L f))
    (hasc : Hid (Asc L f)) (hv : Hid (Has up L f x ↔ v = true)) :
    Calls Try.prog 28 #[.int .u64 up, .slice ad L cap, .int .u64 x] w fun e w' => e = .returned (.bool v) ∧ w' = w := by
  by_cases hx : 1 ≤ x ∧ x ≤ up
  · have hv' : Hid (v = true) := hv.out.1 (.inl hx)
    obtain ⟨x1, x2⟩ := hx
    go_enter Try.func28, Try.ntmps28
    go_wp2
    go_ret
    exact ⟨ret_bool hv'.out.symm, rfl⟩
  · have HX : Hid (¬ (1 ≤ x ∧ x ≤ up)) := hx
    by_cases h0 : L = 0
    · subst h0
      have hv' : Hid (v = false) := by
        have : ¬ v = true := fun h => by
          rcases hv.out.2 h with h | ⟨i, hi, _⟩
          · exact hx h
          · omega
        exact Bool.eq_false_iff.2 this
      by_cases x1 : 1 ≤ x
      · have x2 : ¬ x ≤ up := fun h => hx ⟨x1, h⟩
        clear hx
        go_enter Try.func28, Try.ntmps28
        go_wp2
        refine wp_loop_rounds 1 ?_
        rw [rounds_succ]
        go_wp2
        go_ret
        exact ⟨ret_bool hv'.out.symm, rfl⟩
      · clear hx
        go_enter Try.func28, Try.ntmps28
        go_wp2
        refine wp_loop_rounds 1 ?_
        rw [rounds_succ]
        go_wp2
        go_ret
        exact ⟨ret_bool hv'.out.symm, rfl⟩
    · have hlen : 0 < L := by omega
      clear h0
      obtain ⟨b, o, rfl, _, hc'⟩ := hR.out hlen
      have hc : Hid (∀ i, i < L → w.cell? ⟨b, o + i, none⟩ = some (.int .u64 (f i))) := hc'
      clear hc'
      have xs : 1 ≤ x ∧ ¬ x ≤ up ∨ ¬ 1 ≤ x := by omega
      clear hx
      rcases xs with ⟨x1, x2⟩ | x1
      all_goals
        go_enter Try.func28, Try.ntmps28
        go_wp2
        go_loop [7, 8, 9] (fun p q _ => ∃ lo hi : Nat, lo ≤ hi ∧ hi ≤ L ∧ p = .int .i64 lo ∧ q = .int .i64 hi ∧ Hid (∀ i, i < lo → f i < x) ∧ Hid (∀ i, hi ≤ i → i < L → x ≤ f i)) (fun p q _ => (intOf q).toNat - (intOf p).toNat)
        case atStart => exact ⟨0, L, Nat.zero_le _, Nat.le_refl _, rfl, rfl, fun i hi => absurd hi (by omega), fun i h1 h2 => absurd h1 (by omega)⟩
        case round =>
          obtain ⟨lo, hi, hlh, hhL, rfl, rfl, hA, hB⟩ := hrel
          by_cases hlt : lo < hi
          · obtain ⟨m, hm⟩ : ∃ m : Nat, m = lo + (hi - lo) / 2 := ⟨_, rfl⟩
            have hm1 : lo ≤ m := by omega
            have hm2 : m < hi := by omega
            have em : (lo : Int) + ((hi : Int) - (lo : Int)) / 2 = (m : Int) := by omega
            clear hm
            have i1 : (m : Int) < (L : Int) := by omega
            have c1 : w.cell? ⟨b, o + m, none⟩ = some (.int .u64 (f m)) := hc.out m (by omega)
            by_cases t1 : f m < x
            · go_wp2
              go_round
              case rel => exact ⟨m + 1, hi, by omega, hhL, by go_num, rfl, fun i hi9 => by
                                                                by_cases h9 : i < lo
                                                                · exact hA.out i h9
                                                                · by_cases h8 : i = m
                                                                  · subst h8; exact t1
                                                                  · exact Int.lt_trans (hasc.out i m (by omega) (by omega)) t1, hB⟩
              case measure => simp [intOf]; omega
            · go_wp2
              go_round
              case rel => exact ⟨lo, m, by omega, by omega, rfl, by go_num, hA, fun i h9 h8 => by
                                                                by_cases h7 : i = m
                                                                · subst h7; omega
                                                                · have := hasc.out m i (by omega) h8; omega⟩
              case measure => simp [intOf]; omega
          · have heq : hi = lo := by omega
            subst heq
            have key := has_at up L f x hi hasc.out HX.out hA.out hB.out
            by_cases hin : hi < L
            · have i1 : (hi : Int) < (L : Int) := by omega
              have c1 : w.cell? ⟨b, o + hi, none⟩ = some (.int .u64 (f hi)) := hc.out hi hin
              have hv' : Hid (v = (f hi == x)) := by
                rw [Bool.eq_iff_iff, beq_iff_eq, ← hv.out, key]
                exact ⟨fun h => h.2, fun h => ⟨hin, h⟩⟩
              clear key
              go_wp2
              go_ret
              exact ⟨ret_bool hv'.out.symm, rfl⟩
            · have i1 : ¬ (hi : Int) < (L : Int) := by omega
              have hv' : Hid (v = false) := by
                refine Bool.eq_false_iff.2 (fun h => ?_)
                exact hin (key.1 (hv.out.2 h)).1
              clear key
              go_wp2
              go_ret
              exact ⟨ret_bool hv'.out.symm, rfl⟩
end Go.Proofs.Qxb6620807a.Wk
