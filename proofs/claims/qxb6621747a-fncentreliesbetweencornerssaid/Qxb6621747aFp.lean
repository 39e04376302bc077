/-
  The plain theory of float64 that the two laws want, over the model's 'Ieee.double': rounding, sums, halves, order, all said of whole numbers. No Go text in sight.
  A word x < 2^64 is a sign 'sg x' and a rung 'rg x'. 'dv R': twice the magnitude of rung R, in units of 2^-1074. 'rnd V': the rung nearest to V units of 2^-1075.
-/
import Derived.Laws.FloatArith
namespace Go.Proofs.Qxb6621747a.Fp
open Ieee

/-! ### n / 2^d to the nearest, ties to even -/
def rne (n d : Nat) : Nat := n / 2 ^ d + if 2 ^ d < 2 * (n % 2 ^ d) ∨ (2 ^ d = 2 * (n % 2 ^ d) ∧ n / 2 ^ d % 2 = 1) then 1 else 0

theorem rne_mul (k d : Nat) : rne (k * 2 ^ d) d = k := by
  have hp := Nat.two_pow_pos d
  unfold rne
  rw [Nat.mul_div_cancel _ hp, Nat.mul_mod_left]
  rw [if_neg (by omega)]
  rfl
theorem rne_mono {n m : Nat} (d : Nat) (h : n ≤ m) : rne n d ≤ rne m d := by
  have hp := Nat.two_pow_pos d
  unfold rne
  generalize hg : 2 ^ d = g at *
  have hq : n / g ≤ m / g := Nat.div_le_div_right h
  have e1 := Nat.div_add_mod n g
  have e2 := Nat.div_add_mod m g
  by_cases h1 : n / g < m / g
  · split <;> split <;> omega
  · have h2 : n / g = m / g := by omega
    rw [h2] at e1 ⊢
    have h3 : n % g ≤ m % g := by omega
    split
    · rename_i h4
      rw [if_pos (by omega)]
      exact Nat.le_refl _
    · split <;> omega
theorem rne_ge {k n d : Nat} (h : k * 2 ^ d ≤ n) : k ≤ rne n d := by
  have := rne_mono d h; rwa [rne_mul] at this
theorem rne_le {k n d : Nat} (h : n ≤ k * 2 ^ d) : rne n d ≤ k := by
  have := rne_mono d h; rwa [rne_mul] at this
theorem rne_pow (n d k : Nat) : rne (n * 2 ^ k) (d + k) = rne n d := by
  have hp := Nat.two_pow_pos k
  unfold rne
  rw [Nat.pow_add, Nat.mul_div_mul_right _ _ hp, Nat.mul_mod_mul_right]
  congr 1
  have e1 : (2 ^ d * 2 ^ k < 2 * (n % 2 ^ d * 2 ^ k)) ↔ (2 ^ d < 2 * (n % 2 ^ d)) := by
    rw [← Nat.mul_assoc]; exact Nat.mul_lt_mul_right hp
  have e2 : (2 ^ d * 2 ^ k = 2 * (n % 2 ^ d * 2 ^ k)) ↔ (2 ^ d = 2 * (n % 2 ^ d)) := by
    rw [← Nat.mul_assoc]; exact Nat.mul_left_inj (by omega)
  simp only [e1, e2]
theorem cut_eq (neg : Bool) (n d : Nat) : Toward.cut .even neg n d = rne n d := by
  have hlt : n < 2 ^ (n.log2 + 1) := Nat.lt_log2_self
  unfold Toward.cut
  simp only [Nat.shiftLeft_eq, Nat.one_mul]
  have key : ∀ g : Nat, n / g + (decide (g < 2 * (n % g)) || g == 2 * (n % g) && n / g % 2 == 1).toNat = n / g + if g < 2 * (n % g) ∨ (g = 2 * (n % g) ∧ n / g % 2 = 1) then 1 else 0 := by
    intro g
    congr 1
    by_cases h1 : g < 2 * (n % g)
    · simp [h1]
    · by_cases h2 : g = 2 * (n % g) ∧ n / g % 2 = 1
      · rw [if_pos (.inr h2)]
        have h3 : (g == 2 * (n % g)) = true := beq_iff_eq.2 h2.1
        have h4 : (n / g % 2 == 1) = true := beq_iff_eq.2 h2.2
        simp [h3, h4]
      · rw [if_neg (by rintro (h | h); exact h1 h; exact h2 h)]
        have h3 : (g == 2 * (n % g) && n / g % 2 == 1) = false := by
          rw [Bool.eq_false_iff]; intro h5
          rw [Bool.and_eq_true, beq_iff_eq, beq_iff_eq] at h5
          exact h2 h5
        simp [h1, h3]
  rw [key]
  by_cases h : d ≤ n.log2 + 2
  · rw [Nat.min_eq_left h]; rfl
  · have h1 : n.log2 + 2 ≤ d := by omega
    rw [Nat.min_eq_right h1]
    have h2 : 2 ^ (n.log2 + 2) ≤ 2 ^ d := Nat.pow_le_pow_right (by omega) h1
    have h3 : 2 ^ (n.log2 + 2) = 2 * 2 ^ (n.log2 + 1) := by rw [Nat.pow_succ, Nat.mul_comm]
    unfold rne
    have a1 : n < 2 ^ (n.log2 + 2) := by omega
    have a2 : n < 2 ^ d := by omega
    rw [Nat.div_eq_of_lt a1, Nat.mod_eq_of_lt a1, Nat.div_eq_of_lt a2, Nat.mod_eq_of_lt a2]
    rw [if_neg (by omega), if_neg (by omega)]

/-! ### rungs -/
def B52 : Nat := 4503599627370496
def INF : Nat := 9218868437227405312
theorem b52 : B52 = 2 ^ 52 := by decide
theorem inf_eq : INF = 2047 * B52 := by decide
def dv (S : Nat) : Nat := if S < B52 then 2 * S else (B52 + S % B52) * 2 ^ (S / B52)
def rnd (V : Nat) : Nat := (V.log2 - 53) * B52 + rne V (V.log2 - 53 + 1)

theorem log_bounds {V : Nat} (h : V ≠ 0) : 2 ^ V.log2 ≤ V ∧ V < 2 ^ (V.log2 + 1) := ⟨Nat.log2_self_le h, Nat.lt_log2_self⟩

/-- in the lowest two binades a rung is half its doubled value -/
theorem dv_low {S : Nat} (h : S < 2 * B52) : dv S = 2 * S := by
  unfold dv
  by_cases h1 : S < B52
  · rw [if_pos h1]
  · rw [if_neg h1]
    have e1 : S / B52 = 1 := by unfold B52 at *; omega
    have e2 : S % B52 = S - B52 := by unfold B52 at *; omega
    rw [e1, e2]; unfold B52 at *; omega
/-- the binade q >= 1 -/
theorem dv_high (q f : Nat) (hq : 1 ≤ q) (hf : f < B52) : dv (q * B52 + f) = (B52 + f) * 2 ^ q := by
  unfold dv
  have hp : 0 < B52 := by decide
  have e1 : (q * B52 + f) / B52 = q := by rw [Nat.mul_comm, Nat.mul_add_div hp, Nat.div_eq_of_lt hf, Nat.add_zero]
  have e2 : (q * B52 + f) % B52 = f := by rw [Nat.mul_comm, Nat.mul_add_mod, Nat.mod_eq_of_lt hf]
  have h1 : ¬ q * B52 + f < B52 := by have := Nat.mul_le_mul_right B52 hq; omega
  rw [if_neg h1, e1, e2]
theorem rung_split (S : Nat) : S = S / B52 * B52 + S % B52 ∧ S % B52 < B52 := by
  have := Nat.div_add_mod S B52
  exact ⟨by rw [Nat.mul_comm]; exact this.symm, Nat.mod_lt _ (by decide)⟩
theorem pow_bound {a b : Nat} (h : a ≤ b) : 2 ^ a ≤ 2 ^ b := Nat.pow_le_pow_right (by omega) h

/-- V below the third binade: its rung is V / 2, rounded -/
theorem rnd_low {V : Nat} (h : V < 4 * B52) : rnd V = rne V 1 := by
  unfold rnd
  have : V.log2 - 53 = 0 := by
    by_cases h0 : V = 0
    · subst h0; rfl
    · have h1 : V.log2 < 54 := (Nat.log2_lt h0).2 (by unfold B52 at h; omega)
      omega
  rw [this]; simp
/-- V in binade e + 1 -/
theorem rnd_high {V e : Nat} (he : 1 ≤ e) (h1 : 2 * B52 * 2 ^ e ≤ V) (h2 : V < 4 * B52 * 2 ^ e) : rnd V = e * B52 + rne V (e + 1) ∧ B52 ≤ rne V (e + 1) ∧ rne V (e + 1) ≤ 2 * B52 := by
  have hp := Nat.two_pow_pos e
  have e1 : 2 * B52 * 2 ^ e = 2 ^ (53 + e) := by rw [Nat.pow_add]; rfl
  have e2 : 4 * B52 * 2 ^ e = 2 ^ (53 + e + 1) := by rw [Nat.pow_succ, Nat.pow_add]; show 4 * B52 * 2 ^ e = 2 ^ 53 * 2 ^ e * 2; rw [show (2 : Nat) ^ 53 = 2 * B52 from by decide]; generalize 2 ^ e = x; unfold B52; omega
  have h0 : V ≠ 0 := by
    intro h; subst h
    have : 0 < 2 * B52 * 2 ^ e := Nat.mul_pos (by decide) hp
    omega
  have hl : V.log2 = 53 + e := by
    have a1 : 53 + e ≤ V.log2 := (Nat.le_log2 h0).2 (by rw [← e1]; exact h1)
    have a2 : V.log2 < 53 + e + 1 := (Nat.log2_lt h0).2 (by rw [← e2]; exact h2)
    omega
  refine ⟨?_, ?_, ?_⟩
  · unfold rnd; rw [hl, show 53 + e - 53 = e from by omega]
  · apply rne_ge
    rw [Nat.pow_succ, Nat.mul_comm (2 ^ e) 2, ← Nat.mul_assoc, Nat.mul_comm B52 2]
    exact h1
  · apply rne_le
    rw [Nat.pow_succ, Nat.mul_comm (2 ^ e) 2, ← Nat.mul_assoc, show 2 * B52 * 2 = 4 * B52 from by decide]
    omega
theorem high_of {V : Nat} (h : 4 * B52 ≤ V) : ∃ e, 1 ≤ e ∧ 2 * B52 * 2 ^ e ≤ V ∧ V < 4 * B52 * 2 ^ e := by
  have h0 : V ≠ 0 := by unfold B52 at h; omega
  have hb := log_bounds h0
  have hl : 54 ≤ V.log2 := (Nat.le_log2 h0).2 (by unfold B52 at h; omega)
  refine ⟨V.log2 - 53, by omega, ?_, ?_⟩
  · rw [show 2 * B52 = 2 ^ 53 from by decide, ← Nat.pow_add, show 53 + (V.log2 - 53) = V.log2 from by omega]; exact hb.1
  · rw [show 4 * B52 = 2 ^ 54 from by decide, ← Nat.pow_add, show 54 + (V.log2 - 53) = V.log2 + 1 from by omega]; exact hb.2

theorem dv_ge (S : Nat) (h : 1 ≤ S / B52) : B52 * 2 ^ (S / B52) ≤ dv S ∧ dv S < 2 * B52 * 2 ^ (S / B52) := by
  obtain ⟨h1, h2⟩ := rung_split S
  have e := dv_high (S / B52) (S % B52) h h2
  rw [← h1] at e
  rw [e]
  have hp := Nat.two_pow_pos (S / B52)
  exact ⟨Nat.mul_le_mul_right _ (by omega), Nat.mul_lt_mul_of_pos_right (by omega) hp⟩

/-- every rung below V is below the nearest -/
theorem rnd_ge {S V : Nat} (h : dv S ≤ V) : S ≤ rnd V := by
  by_cases hV : V < 4 * B52
  · rw [rnd_low hV]
    by_cases hS : S < 2 * B52
    · rw [dv_low hS] at h
      exact rne_ge (by omega)
    · have hq : 2 ≤ S / B52 := (Nat.le_div_iff_mul_le (by decide)).2 (by omega)
      have h1 := (dv_ge S (by omega)).1
      have h2 : B52 * 2 ^ 2 ≤ B52 * 2 ^ (S / B52) := Nat.mul_le_mul_left _ (pow_bound hq)
      omega
  · obtain ⟨e, he, h1, h2⟩ := high_of (Nat.le_of_not_lt hV)
    obtain ⟨r1, r2, r3⟩ := rnd_high he h1 h2
    rw [r1]
    obtain ⟨s1, s2⟩ := rung_split S
    by_cases hq : S / B52 ≤ e
    · have := Nat.mul_le_mul_right B52 hq
      omega
    · by_cases hq2 : S / B52 = e + 1
      · have e1 := dv_high (S / B52) (S % B52) (by omega) s2
        rw [← s1, hq2] at e1
        rw [e1] at h
        have := rne_ge h
        rw [hq2, Nat.add_mul] at s1
        omega
      · have h3 := (dv_ge S (by omega)).1
        have h4 : B52 * 2 ^ (e + 2) ≤ B52 * 2 ^ (S / B52) := Nat.mul_le_mul_left _ (pow_bound (by omega))
        have h5 : B52 * 2 ^ (e + 2) = 4 * B52 * 2 ^ e := by rw [Nat.pow_add, ← Nat.mul_assoc, Nat.mul_right_comm, Nat.mul_comm B52 _]
        omega
/-- every rung above V is above the nearest -/
theorem rnd_le {S V : Nat} (h : V ≤ dv S) : rnd V ≤ S := by
  by_cases hV : V < 4 * B52
  · rw [rnd_low hV]
    by_cases hS : S < 2 * B52
    · rw [dv_low hS] at h
      exact rne_le (by omega)
    · have : rne V 1 ≤ 2 * B52 := rne_le (by omega)
      omega
  · obtain ⟨e, he, h1, h2⟩ := high_of (Nat.le_of_not_lt hV)
    obtain ⟨r1, r2, r3⟩ := rnd_high he h1 h2
    rw [r1]
    obtain ⟨s1, s2⟩ := rung_split S
    by_cases hq : S / B52 ≤ e
    · exfalso
      by_cases h0 : 1 ≤ S / B52
      · have h3 := (dv_ge S h0).2
        have h4 : 2 * B52 * 2 ^ (S / B52) ≤ 2 * B52 * 2 ^ e := Nat.mul_le_mul_left _ (pow_bound hq)
        omega
      · have h5 : S < B52 := by
          have hz : S / B52 = 0 := Nat.eq_zero_of_not_pos h0
          rw [hz] at s1; omega
        rw [dv_low (by omega)] at h
        omega
    · by_cases hq2 : S / B52 = e + 1
      · have e1 := dv_high (S / B52) (S % B52) (by omega) s2
        rw [← s1, hq2] at e1
        rw [e1] at h
        have := rne_le h
        rw [hq2, Nat.add_mul] at s1
        omega
      · have := Nat.mul_le_mul_right B52 (show e + 2 ≤ S / B52 by omega)
        rw [Nat.add_mul] at this
        omega
theorem dv_mono {S T : Nat} (h : S ≤ T) : dv S ≤ dv T := by
  refine Nat.le_of_not_lt fun hlt => ?_
  have h1 := rnd_ge (Nat.le_of_lt hlt)
  have h2 := rnd_le (Nat.le_refl (dv S))
  have h3 : S = T := by omega
  rw [h3] at hlt; omega
/-- a rung's own value is rounded to itself -/
theorem rnd_dv (S : Nat) : rnd (dv S) = S := Nat.le_antisymm (rnd_le (Nat.le_refl _)) (rnd_ge (Nat.le_refl _))
theorem dv_inj {S T : Nat} (h : dv S = dv T) : S = T := by rw [← rnd_dv S, h, rnd_dv]
theorem dv_zero : dv 0 = 0 := rfl
theorem dv_pos {S : Nat} (h : 0 < S) : 0 < dv S := by
  refine Nat.pos_of_ne_zero fun h0 => ?_
  have := dv_inj (h0.trans dv_zero.symm); omega
theorem dv_even (S : Nat) : dv S % 2 = 0 := by
  by_cases h : S < 2 * B52
  · rw [dv_low h]; omega
  · obtain ⟨s1, s2⟩ := rung_split S
    have hq : 2 ≤ S / B52 := (Nat.le_div_iff_mul_le (by decide)).2 (by omega)
    have e1 := dv_high (S / B52) (S % B52) (by omega) s2
    rw [← s1] at e1
    obtain ⟨q, hq'⟩ : ∃ q, S / B52 = q + 1 := ⟨S / B52 - 1, by omega⟩
    rw [e1, hq', Nat.pow_succ, ← Nat.mul_assoc]
    exact Nat.mul_mod_left _ _
/-- the rung of twice the magnitude -/
def dbl (R : Nat) : Nat := if R < B52 then 2 * R else R + B52
theorem dv_dbl (R : Nat) : dv (dbl R) = 2 * dv R := by
  unfold dbl
  by_cases h : R < B52
  · rw [if_pos h, dv_low (by omega), dv_low (by omega)]
  · rw [if_neg h]
    obtain ⟨s1, s2⟩ := rung_split R
    have hq : 1 ≤ R / B52 := (Nat.le_div_iff_mul_le (by decide)).2 (by omega)
    have e1 := dv_high (R / B52) (R % B52) hq s2
    rw [← s1] at e1
    have e2 := dv_high (R / B52 + 1) (R % B52) (by omega) s2
    have e3 : (R / B52 + 1) * B52 + R % B52 = R + B52 := by rw [Nat.add_mul]; omega
    rw [e3] at e2
    rw [e1, e2, Nat.pow_succ, ← Nat.mul_assoc, Nat.mul_comm]
end Go.Proofs.Qxb6621747a.Fp
