/-
  The plain law of the midpoint (a + b) / 2 on float64.
-/
import Derived.Test.Qxb6621747aFop
namespace Go.Proofs.Qxb6621747a.Fp
open Ieee
set_option linter.unusedVariables false

/-- m is what (a + b) / 2 may give: the two operations' words where they are valid, else some NaN -/
def Cen (a b m : Nat) : Prop := (∃ s, double.add a b = some s ∧ double.div s TWO = some m) ∨ (double.add a b = none ∧ Nan m)

def CEIL : Nat := 9209861237972664320
theorem ceil_eq : CEIL = 2045 * B52 := by decide

theorem sv_word (s : Bool) (R : Nat) (h : R < 9223372036854775808) : sv (word s R) = if s then -(dv R : Int) else (dv R : Int) := by
  unfold sv; rw [sg_word s R h, rg_word s R h]
theorem inf_lt : INF < 9223372036854775808 := by decide
theorem fin_word (s : Bool) (R : Nat) (h : R < INF) : Fin (word s R) := by
  unfold Fin; rw [rg_word s R (Nat.lt_trans h inf_lt)]; exact h
theorem rg_inf (s : Bool) : rg (word s INF) = INF := rg_word s INF inf_lt
theorem sg_inf (s : Bool) : sg (word s INF) = s := sg_word s INF inf_lt

theorem half_le (S : Nat) : rnd (dv S / 2) ≤ S := rnd_le (by omega)

/-- sums are never NaN -/
theorem add_not_nan {a b s : Nat} (h : double.add a b = some s) : (Fin s ∨ rg s = INF) := by
  rcases fin_or a with ha | ha | ha
  · rcases fin_or b with hb | hb | hb
    · rw [add_fin ha hb] at h
      cases h
      by_cases h1 : rnd (sv a + sv b).natAbs < INF
      · rw [Nat.min_eq_left (Nat.le_of_lt h1)]; exact .inl (fin_word _ _ h1)
      · rw [Nat.min_eq_right (Nat.le_of_not_lt h1)]; exact .inr (rg_inf _)
    · rw [add_inf_right ha hb] at h; cases h; exact .inr (rg_inf _)
    · rw [add_nan (.inr hb)] at h; cases h
  · rcases fin_or b with hb | hb | hb
    · rw [add_inf_left ha hb] at h; cases h; exact .inr (rg_inf _)
    · by_cases hs : sg a = sg b
      · rw [add_inf_same ha hb hs] at h; cases h; exact .inr (rg_inf _)
      · rw [add_inf_opp ha hb hs] at h; cases h
    · rw [add_nan (.inr hb)] at h; cases h
  · rw [add_nan (.inl ha)] at h; cases h
/-- .. so the half of a sum is valid -/
theorem half_some {a b s : Nat} (h : double.add a b = some s) : ∃ m, double.div s TWO = some m := by
  rcases add_not_nan h with h1 | h1
  · exact ⟨_, half_fin h1⟩
  · exact ⟨_, half_inf h1⟩

def sgnOf (a b : Nat) : Bool := if sv a + sv b = 0 then sg a && sg b else decide (sv a + sv b < 0)
theorem cen_fin {a b m : Nat} (ha : Fin a) (hb : Fin b) (h : Cen a b m) :
    (rnd (sv a + sv b).natAbs < INF ∧ m = word (sgnOf a b) (rnd (dv (rnd (sv a + sv b).natAbs) / 2))) ∨ (INF ≤ rnd (sv a + sv b).natAbs ∧ m = word (sgnOf a b) INF) := by
  have hadd := add_fin ha hb
  rcases h with ⟨s, h1, h2⟩ | ⟨h1, _⟩
  · rw [hadd] at h1
    cases h1
    by_cases hl : rnd (sv a + sv b).natAbs < INF
    · rw [Nat.min_eq_left (Nat.le_of_lt hl)] at h2
      rw [half_fin (fin_word _ _ hl), sg_word _ _ (Nat.lt_trans hl inf_lt), rg_word _ _ (Nat.lt_trans hl inf_lt)] at h2
      have h3 := half_le (rnd (sv a + sv b).natAbs)
      rw [Nat.min_eq_left (by omega)] at h2
      cases h2
      exact .inl ⟨hl, rfl⟩
    · have hl' := Nat.le_of_not_lt hl
      rw [Nat.min_eq_right hl'] at h2
      rw [half_inf (rg_inf _), sg_inf] at h2
      cases h2
      exact .inr ⟨hl', rfl⟩
  · rw [hadd] at h1; cases h1

/-- the half of a rounded sum lies below every rung whose double is above the sum .. -/
theorem mid_le {W H : Nat} (h : W ≤ 2 * dv H) : rnd (dv (rnd W) / 2) ≤ H := by
  have h1 : rnd W ≤ dbl H := rnd_le (by rw [dv_dbl]; exact h)
  have h2 := dv_mono h1
  rw [dv_dbl] at h2
  exact rnd_le (by omega)
/-- .. and above every rung whose double is below it -/
theorem mid_ge {W L : Nat} (h : 2 * dv L ≤ W) : L ≤ rnd (dv (rnd W) / 2) := by
  have h1 : dbl L ≤ rnd W := rnd_ge (by rw [dv_dbl]; exact h)
  have h2 := dv_mono h1
  rw [dv_dbl] at h2
  exact rnd_ge (by omega)

theorem sv_cases (x : Nat) : (sg x = false ∧ sv x = (dv (rg x) : Int)) ∨ (sg x = true ∧ sv x = -(dv (rg x) : Int)) := by
  unfold sv
  cases sg x
  · exact .inl ⟨rfl, by simp⟩
  · exact .inr ⟨rfl, by simp⟩
theorem sv_abs (x : Nat) : (sv x).natAbs = dv (rg x) := by
  rcases sv_cases x with ⟨_, h⟩ | ⟨_, h⟩ <;> rw [h] <;> simp

/-- finite corners, no overflow: the centre lies between them -/
theorem between {a b m : Nat} (ha : Fin a) (hb : Fin b) (h1 : rnd (sv a + sv b).natAbs < INF) (h2 : m = word (sgnOf a b) (rnd (dv (rnd (sv a + sv b).natAbs) / 2))) :
    Fin m ∧ (∀ v, v ≤ sv a → v ≤ sv b → (v = sv a ∨ v = sv b) → v ≤ sv m) ∧ (∀ v, sv a ≤ v → sv b ≤ v → (v = sv a ∨ v = sv b) → sv m ≤ v) := by
  have hR : rnd (dv (rnd (sv a + sv b).natAbs) / 2) < INF := Nat.lt_of_le_of_lt (half_le _) h1
  have hm : Fin m := by rw [h2]; exact fin_word _ _ hR
  have hsv : sv m = if sgnOf a b then -(dv (rnd (dv (rnd (sv a + sv b).natAbs) / 2)) : Int) else (dv (rnd (dv (rnd (sv a + sv b).natAbs) / 2)) : Int) := by
    rw [h2]; exact sv_word _ _ (Nat.lt_trans hR inf_lt)
  refine ⟨hm, ?_, ?_⟩
  · intro v va vb hv
    rw [hsv]
    by_cases hz : sv a + sv b = 0
    · have e : rnd (dv (rnd (sv a + sv b).natAbs) / 2) = 0 := by
        have := mid_le (W := (sv a + sv b).natAbs) (H := 0) (by rw [hz]; simp)
        omega
      rw [e, dv_zero]
      split <;> omega
    · by_cases hn : sv a + sv b < 0
      · have hs : sgnOf a b = true := by unfold sgnOf; rw [if_neg hz]; simp [hn]
        rw [if_pos hs]
        have hv0 : v < 0 := by omega
        have : ∃ y, v = sv y := by rcases hv with h | h <;> exact ⟨_, h⟩
        obtain ⟨y, rfl⟩ := this
        have ey := sv_abs y
        have := mid_le (W := (sv a + sv b).natAbs) (H := rg y) (by omega)
        have := dv_mono this
        omega
      · have hs : sgnOf a b = false := by unfold sgnOf; rw [if_neg hz]; simp [hn]
        rw [if_neg (by rw [hs]; decide)]
        by_cases hv0 : v ≤ 0
        · omega
        · have : ∃ y, v = sv y := by rcases hv with h | h <;> exact ⟨_, h⟩
          obtain ⟨y, rfl⟩ := this
          have ey := sv_abs y
          have := mid_ge (W := (sv a + sv b).natAbs) (L := rg y) (by omega)
          have := dv_mono this
          omega
  · intro v va vb hv
    rw [hsv]
    by_cases hz : sv a + sv b = 0
    · have e : rnd (dv (rnd (sv a + sv b).natAbs) / 2) = 0 := by
        have := mid_le (W := (sv a + sv b).natAbs) (H := 0) (by rw [hz]; simp)
        omega
      rw [e, dv_zero]
      split <;> omega
    · by_cases hn : sv a + sv b < 0
      · have hs : sgnOf a b = true := by unfold sgnOf; rw [if_neg hz]; simp [hn]
        rw [if_pos hs]
        by_cases hv0 : 0 ≤ v
        · omega
        · have : ∃ y, v = sv y := by rcases hv with h | h <;> exact ⟨_, h⟩
          obtain ⟨y, rfl⟩ := this
          have ey := sv_abs y
          have := mid_ge (W := (sv a + sv b).natAbs) (L := rg y) (by omega)
          have := dv_mono this
          omega
      · have hs : sgnOf a b = false := by unfold sgnOf; rw [if_neg hz]; simp [hn]
        rw [if_neg (by rw [hs]; decide)]
        have : ∃ y, v = sv y := by rcases hv with h | h <;> exact ⟨_, h⟩
        obtain ⟨y, rfl⟩ := this
        have ey := sv_abs y
        have := mid_le (W := (sv a + sv b).natAbs) (H := rg y) (by omega)
        have := dv_mono this
        omega

theorem dbl_ceil {R : Nat} (h : R ≤ CEIL) : dbl R < INF := by
  unfold dbl
  split
  · unfold B52 INF at *; omega
  · unfold CEIL B52 INF at *; omega

/-- overflow: both corners have the sign of the sum, and one is above 2^1022 -/
theorem over {a b : Nat} (ha : Fin a) (hb : Fin b) (h : INF ≤ rnd (sv a + sv b).natAbs) :
    ¬ (rg a ≤ CEIL ∧ rg b ≤ CEIL) ∧ ((sgnOf a b = false ∧ 0 < sv a ∧ 0 < sv b) ∨ (sgnOf a b = true ∧ sv a < 0 ∧ sv b < 0)) := by
  have ea := sv_abs a
  have eb := sv_abs b
  have hbig : ∀ x, Fin x → ¬ (sv a + sv b).natAbs ≤ dv (rg x) := by
    intro x hx h1
    have := rnd_le h1
    unfold Fin at hx; omega
  refine ⟨?_, ?_⟩
  · rintro ⟨h1, h2⟩
    have d1 := dv_mono h1
    have d2 := dv_mono h2
    have h3 : (sv a + sv b).natAbs ≤ dv (dbl CEIL) := by rw [dv_dbl]; omega
    have h4 := rnd_le h3
    have h5 := dbl_ceil (Nat.le_refl CEIL)
    omega
  · have p1 := hbig a ha
    have p2 := hbig b hb
    have hz : sv a + sv b ≠ 0 := fun e => p1 (by rw [e]; simp)
    unfold sgnOf
    rw [if_neg hz]
    by_cases hn : sv a + sv b < 0
    · exact .inr ⟨by simp [hn], by omega, by omega⟩
    · exact .inl ⟨by simp [hn], by omega, by omega⟩

/-- a point box keeps its point, bit for bit -/
theorem point {a m : Nat} (ha : Fin a) (hl : a < 18446744073709551616) (hs : rg a ≤ CEIL) (h : Cen a a m) : m = a := by
  have ea := sv_abs a
  have eW : (sv a + sv a).natAbs = dv (dbl (rg a)) := by rw [dv_dbl]; omega
  have e1 : rnd (sv a + sv a).natAbs = dbl (rg a) := by rw [eW, rnd_dv]
  have e2 : dv (dbl (rg a)) / 2 = dv (rg a) := by rw [dv_dbl]; omega
  have hsg : sgnOf a a = sg a := by
    unfold sgnOf
    by_cases hz : sv a + sv a = 0
    · rw [if_pos hz]; cases sg a <;> rfl
    · rw [if_neg hz]
      rcases sv_cases a with ⟨h1, h2⟩ | ⟨h1, h2⟩
      · rw [h1]; simp; omega
      · rw [h1]; simp; omega
  rcases cen_fin ha ha h with ⟨h1, h2⟩ | ⟨h1, h2⟩
  · rw [h2, hsg, e1, e2, rnd_dv, word_self a hl]
  · rw [e1] at h1
    have := dbl_ceil hs
    omega

/-! ### halving first -/
def Halv (x : Nat) : Prop := rg x = 0 ∨ (2 * B52 ≤ rg x ∧ rg x ≤ CEIL)
def hv (R : Nat) : Nat := if R = 0 then 0 else R - B52
theorem dv_hv {R : Nat} (h : R = 0 ∨ 2 * B52 ≤ R) : dv R = 2 * dv (hv R) := by
  unfold hv
  rcases h with h | h
  · subst h; rfl
  · have hp : 0 < B52 := by decide
    rw [if_neg (by omega)]
    have e : R = dbl (R - B52) := by unfold dbl; rw [if_neg (by omega)]; omega
    rw [← dv_dbl, ← e]
theorem halv_fin {x : Nat} (h : Halv x) : Fin x := by
  unfold Fin; unfold Halv at h; unfold CEIL INF at *; omega
theorem halv_half {x : Nat} (h : Halv x) : double.div x TWO = some (word (sg x) (hv (rg x))) := by
  have h1 := dv_hv (R := rg x) (by unfold Halv at h; omega)
  rw [half_fin (halv_fin h)]
  have e : dv (rg x) / 2 = dv (hv (rg x)) := by omega
  rw [e, rnd_dv]
  have : hv (rg x) < INF := by unfold hv; have := halv_fin h; unfold Fin at this; split <;> omega
  rw [Nat.min_eq_left (Nat.le_of_lt this)]
theorem hv_lt {x : Nat} (h : Halv x) : hv (rg x) < INF := by
  unfold hv; have := halv_fin h; unfold Fin at this; split <;> omega
/-- rounding the half, and halving the rounded -/
theorem rnd_halves {W : Nat} (h4 : W % 4 = 0) : rnd (dv (rnd W) / 2) = rnd (W / 2) := by
  by_cases h : W < 4 * B52
  · have e1 : rnd W = W / 2 := by
      rw [rnd_low h]
      have : W = W / 2 * 2 ^ 1 := by omega
      rw [this, rne_mul]; omega
    rw [e1, dv_low (by omega)]
    congr 1; omega
  · obtain ⟨e, he, h1, h2⟩ := high_of (Nat.le_of_not_lt h)
    obtain ⟨r1, r2, r3⟩ := rnd_high he h1 h2
    have e2 : W = W / 2 * 2 ^ 1 := by omega
    have e3 : rne W (e + 1) = rne (W / 2) e := by
      have := rne_pow (W / 2) e 1
      rw [← e2] at this; exact this
    have e4 : rnd (W / 2) = rnd W - B52 := by
      by_cases h5 : e = 1
      · subst h5
        rw [rnd_low (by omega), r1, e3]; omega
      · have hp : 2 ^ e = 2 * 2 ^ (e - 1) := by rw [← Nat.pow_succ', show (e - 1).succ = e from by omega]
        rw [hp] at h1 h2
        have m1 : 2 * B52 * (2 * 2 ^ (e - 1)) = 2 * (2 * B52 * 2 ^ (e - 1)) := by rw [Nat.mul_left_comm]
        have m2 : 4 * B52 * (2 * 2 ^ (e - 1)) = 2 * (4 * B52 * 2 ^ (e - 1)) := by rw [Nat.mul_left_comm]
        obtain ⟨q1, q2, q3⟩ := rnd_high (V := W / 2) (e := e - 1) (by omega) (by omega) (by omega)
        rw [show e - 1 + 1 = e from by omega] at q1
        rw [q1, r1, e3]
        have : e * B52 = (e - 1) * B52 + B52 := by
          obtain ⟨k, rfl⟩ : ∃ k, e = k + 1 := ⟨e - 1, by omega⟩
          rw [Nat.add_mul]; simp
        omega
    have hS : 2 * B52 ≤ rnd W := by
      rw [r1]
      have := Nat.mul_le_mul_right B52 he
      omega
    have hp52 : 0 < B52 := by decide
    have e5 : rnd W = dbl (rnd W - B52) := by
      unfold dbl
      rw [if_neg (by omega)]
      omega
    have e6 : dv (rnd W) = 2 * dv (rnd W - B52) := by rw [← dv_dbl, ← e5]
    rw [e6, Nat.mul_div_cancel_left _ (by omega), rnd_dv, e4]

/-- zero or of magnitude in [2^-1021, 2^1022]: halving first gives the same bits -/
theorem halves_same {a b m : Nat} (ha : Halv a) (hb : Halv b) (h : Cen a b m) :
    ∃ a2 b2, double.div a TWO = some a2 ∧ double.div b TWO = some b2 ∧ double.add a2 b2 = some m := by
  have fa := hv_lt ha
  have fb := hv_lt hb
  refine ⟨_, _, halv_half ha, halv_half hb, ?_⟩
  have la := Nat.lt_trans fa inf_lt
  have lb := Nat.lt_trans fb inf_lt
  have d1 := dv_hv (R := rg a) (by unfold Halv at ha; omega)
  have d2 := dv_hv (R := rg b) (by unfold Halv at hb; omega)
  have s1 : 2 * sv (word (sg a) (hv (rg a))) = sv a := by
    rw [sv_word _ _ la]; unfold sv; split <;> omega
  have s2 : 2 * sv (word (sg b) (hv (rg b))) = sv b := by
    rw [sv_word _ _ lb]; unfold sv; split <;> omega
  have g1 := dv_even (hv (rg a))
  have g2 := dv_even (hv (rg b))
  have a1 := sv_abs (word (sg a) (hv (rg a)))
  have a2 := sv_abs (word (sg b) (hv (rg b)))
  rw [rg_word _ _ la] at a1
  rw [rg_word _ _ lb] at a2
  rw [add_fin (fin_word _ _ fa) (fin_word _ _ fb), sg_word _ _ la, sg_word _ _ lb]
  generalize sv (word (sg a) (hv (rg a))) = x at *
  generalize sv (word (sg b) (hv (rg b))) = y at *
  have eT : sv a + sv b = 2 * (x + y) := by omega
  have eA : (sv a + sv b).natAbs = 2 * (x + y).natAbs := by omega
  have hsg : sgnOf a b = if x + y = 0 then sg a && sg b else decide (x + y < 0) := by
    unfold sgnOf
    by_cases hz : x + y = 0
    · rw [if_pos hz, if_pos (by omega)]
    · rw [if_neg hz, if_neg (by omega)]
      by_cases hn : x + y < 0
      · have : sv a + sv b < 0 := by omega
        simp [hn, this]
      · have : ¬ sv a + sv b < 0 := by omega
        simp [hn, this]
  have hhalf : rnd (dv (rnd (sv a + sv b).natAbs) / 2) = rnd (x + y).natAbs := by
    rw [rnd_halves (by omega)]; congr 1; omega
  rcases cen_fin (halv_fin ha) (halv_fin hb) h with ⟨h1, h2⟩ | ⟨h1, h2⟩
  · have h3 : rnd (x + y).natAbs < INF := by rw [← hhalf]; exact Nat.lt_of_le_of_lt (half_le _) h1
    rw [h2, ← hsg, hhalf, Nat.min_eq_left (Nat.le_of_lt h3)]
  · exfalso
    have := (over (halv_fin ha) (halv_fin hb) h1).1
    unfold Halv at ha hb
    exact this ⟨by omega, by omega⟩

/-! ### the same corners give the same centre, or both NaN -/
theorem cen_same {a b m n : Nat} (h1 : Cen a b m) (h2 : Cen a b n) : (m = n ∧ ¬ Nan m) ∨ (Nan m ∧ Nan n) := by
  rcases h1 with ⟨s, p1, p2⟩ | ⟨p1, p2⟩
  · rcases h2 with ⟨t, q1, q2⟩ | ⟨q1, q2⟩
    · rw [p1] at q1; cases q1
      rw [p2] at q2; cases q2
      refine .inl ⟨rfl, ?_⟩
      rcases add_not_nan p1 with h | h
      · rw [half_fin h] at p2
        cases p2
        unfold Nan
        have := Nat.min_le_right (rnd (dv (rg s) / 2)) INF
        rw [rg_word _ _ (Nat.lt_of_le_of_lt this inf_lt)]
        omega
      · rw [half_inf h] at p2
        cases p2
        unfold Nan
        rw [rg_inf]; omega
    · rw [p1] at q1; cases q1
  · rcases h2 with ⟨t, q1, q2⟩ | ⟨q1, q2⟩
    · rw [p1] at q1; cases q1
    · exact .inr ⟨p2, q2⟩
theorem cen_swap {a b m : Nat} (h : Cen a b m) : Cen b a m := by
  unfold Cen at *
  rw [add_comm b a]; exact h
end Go.Proofs.Qxb6621747a.Fp
